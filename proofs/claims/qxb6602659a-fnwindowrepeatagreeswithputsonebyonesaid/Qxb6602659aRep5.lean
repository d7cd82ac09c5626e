import Derived.Test.Qxb6602659aPut
import Derived.Test.Qxb6602659aRepeat
namespace Go.Proofs.Qxb6602659a.Win
open Go.RowKit

/-- The inputs that the two laws on 'repeat' speak of. -/
def Ok5 (m : Nat) (e f p d n : Int) : Prop := m ≤ 524288 ∧ 0 < m ∧ 0 ≤ e ∧ e < m ∧ 0 ≤ f ∧ f ≤ m ∧ 0 ≤ p ∧ p ≤ m ∧ 1 ≤ d ∧ d ≤ m ∧ 0 ≤ n

set_option maxRecDepth 100000 in
set_option maxHeartbeats 2000000 in
theorem early5 (w : World) (a : Option Addr) (m c : Nat) (e f p d n : Int) (h1 : m ≤ maxLen) (hno : ¬ Ok5 m e f p d n) :
    Calls Try.prog 5 #[.slice a m c, .int .i64 e, .int .i64 f, .int .i64 p, .int .i64 d, .int .i64 n] w fun r w' => r = .returned (.bool true) ∧ Below w.heap.size w w' := by
  have HN := hide hno
  clear hno
  have h1' := h1
  unfold maxLen at h1'
  by_cases hb : m ≤ 1048576
  · by_cases h0 : m = 0
    · subst h0
      go_enter Try.func5, Try.ntmps5
      go_wp2_with (go_at_call 14; refine (bytes5 w a _ c e f p d n h1).mono ?_; rintro r w' ⟨rfl, rfl⟩)
      go_ret
      exact ⟨rfl, Below.refl _ _⟩
    · have hz : ((m : Int) == 0) = false := by rw [beq_eq_false_iff_ne]; omega
      go_enter Try.func5, Try.ntmps5
      go_wp2_with (go_at_call 14; refine (bytes5 w a m c e f p d n h1).mono ?_; rintro r w' ⟨rfl, rfl⟩)
      all_goals first
        | (go_ret; exact ⟨rfl, Below.refl _ _⟩)
        | skip
      refine absurd ?_ HN.out
      unfold Ok5
      exact ⟨by omega, by omega, by omega, by omega, by omega, by omega, by omega, by omega, by omega, by omega, by omega⟩
  · go_enter Try.func5, Try.ntmps5
    go_wp2_with (go_at_call 14; refine (bytes5 w a m c e f p d n h1).mono ?_; rintro r w' ⟨rfl, rfl⟩)
    go_ret
    exact ⟨rfl, Below.refl _ _⟩

theorem St.start2 {w w1 w2 : World} {l : List Int} (R0 : w1.heap[w.heap.size]? = some (.cells (cells l) 5 (0, 0)))
    (R1 : w2.heap[w1.heap.size]? = some (.cells (cells l) 5 (0, 0))) (B0 : Below w.heap.size w w1) (B1 : Below w1.heap.size w1 w2) : St w w2 w.heap.size w1.heap.size w1.heap.size l l [] 0 := by
  have h1 := lt_of_some R0
  exact ⟨keep R0 B1, fun hn => absurd hn (by omega), R1, B0.trans (B1.mono (by omega)), Nat.le_refl _, h1, h1⟩

/-- What the last loop meets at place q. -/
def Cell5 (wr : World) (gb go m k e dist q : Nat) : Prop :=
  ∃ d : Nat, d < m ∧ ((q < e ∧ (q : Int) - (e : Int) + (m : Int) = (d : Int)) ∨ (¬ q < e ∧ (q : Int) - (e : Int) = (d : Int))) ∧
    ((¬ d < k ∧ ∃ v : Int, wr.cell? ⟨gb, q, none⟩ = some (.int .u8 v) ∧ wr.cell? ⟨go, q, none⟩ = some (.int .u8 v)) ∨
     (d < k ∧ ∃ v v' : Int, wr.cell? ⟨gb, q, none⟩ = some (.int .u8 v) ∧ wr.cell? ⟨go, q, none⟩ = some (.int .u8 v') ∧
       ∃ t src : Nat, (d : Int) % (dist : Int) = (t : Int) ∧ t < dist ∧ src < m ∧ ((¬ ((e : Int) - (dist : Int) + (t : Int) < 0) ∧ (e : Int) - (dist : Int) + (t : Int) = (src : Int)) ∨ ((e : Int) - (dist : Int) + (t : Int) < 0 ∧ (e : Int) - (dist : Int) + (t : Int) + (m : Int) = (src : Int))) ∧
         wr.cell? ⟨go, src, none⟩ = some (.int .u8 v)))
theorem cell5 {w wr : World} {gb gs go m k e dist q : Nat} {l : List Int} (h : St w wr gb gs go (Ring.rep l e dist k) l [] 0) (hl : l.length = m) (he : e < m) (hq : q < m) (hd : 0 < dist) (hdm : dist ≤ m) (hk : k ≤ m) :
    Cell5 wr gb go m k e dist q := by
  have hat := Ring.rep_at l e dist (by omega) hd (by omega) k q (by omega) (by omega)
  rw [hl] at hat
  have hoff := Ring.off_lt he hq
  have cB : wr.cell? ⟨gb, q, none⟩ = some (.int .u8 ((Ring.rep l e dist k).getD q 0)) := by
    rw [cell_of_row _ _ _ _ _ _ h.buf]; exact cells_at _ q (by rw [Ring.rep_length]; omega)
  have cO : ∀ j, j < m → wr.cell? ⟨go, j, none⟩ = some (.int .u8 (l.getD j 0)) := by
    intro j hj
    rw [cell_of_row _ _ _ _ _ _ h.orig]; exact cells_at _ j (by omega)
  rw [hat] at cB
  refine ⟨Ring.off m e q, hoff, ?_, ?_⟩
  · by_cases hqe : q < e
    · left; refine ⟨hqe, ?_⟩; unfold Ring.off; rw [if_pos hqe]; omega
    · right; refine ⟨hqe, ?_⟩; unfold Ring.off; rw [if_neg hqe]; omega
  · generalize Ring.off m e q = d at *
    by_cases hdk : d < k
    · right
      rw [if_pos hdk] at cB
      have ht := Nat.mod_lt d hd
      refine ⟨hdk, _, _, cB, cO q hq, d % dist, (e + m - dist + d % dist) % m, by simp, ht, Nat.mod_lt _ (by omega), ?_, cO _ (Nat.mod_lt _ (by omega))⟩
      generalize d % dist = t at *
      by_cases hs : e + t < dist
      · right
        rw [Nat.mod_eq_of_lt (by omega)]
        omega
      · left
        rw [Nat.mod_eq_sub_mod (by omega), Nat.mod_eq_of_lt (by omega)]
        omega
    · left
      rw [if_neg hdk] at cB
      exact ⟨hdk, _, cB, cO q hq⟩

set_option maxRecDepth 100000 in
set_option maxHeartbeats 4000000 in
theorem main5 (w : World) (a : Option Addr) (m c : Nat) (l : List Int) (e f p dist n : Nat) (hs : Src w a m c l)
    (h1 : m ≤ 524288) (he : e < m) (hf : f ≤ m) (hp : p ≤ m) (hd : 0 < dist) (hdm : dist ≤ m) (hn : n ≤ maxLen) :
    Calls Try.prog 5 #[.slice a m c, .int .i64 e, .int .i64 f, .int .i64 p, .int .i64 dist, .int .i64 n] w fun r w' => r = .returned (.bool true) ∧ Below w.heap.size w w' := by
  have hl : l.length = m := hs.1
  have HL := hide hl
  have HS := hide hs
  have HN := hide hn
  unfold maxLen at hn
  clear hs hl
  have hz : ((m : Int) == 0) = false := by rw [beq_eq_false_iff_ne]; omega
  have hb : decide (m ≤ 1048576) = true := by simp; omega
  have i1 : (1 : Int) ≤ (dist : Int) := by omega
  go_enter Try.func5, Try.ntmps5
  go_wp2_with (go_at_call 14; refine (bytes5 w a m c e f p dist n (by unfold maxLen; omega)).mono ?_; rintro r w' ⟨rfl, hw⟩; subst w'; rw [hb])
  refine (clone_src _ a m c l HS.out (by omega)).mono ?_
  rintro r w1 ⟨b0, rfl, hb0, hr0, hB0⟩
  obtain rfl := hb0 (by omega)
  have R0 := hide (hr0 (by omega))
  have B0 := hide hB0
  clear hb0 hr0 hB0
  go_wp2_with fail
  have hsr := src_row R0.out
  rw [HL.out] at hsr
  refine (clone_src _ _ m m l hsr (by omega)).mono ?_
  rintro r w3 ⟨b2, rfl, hb2, hr2, hB2⟩
  obtain rfl := hb2 (by omega)
  have HT := hide (St.start2 R0.out (hr2 (by omega)) B0.out hB2)
  clear hb2 hr2 hB2 hsr R0 B0 HS
  generalize w1.heap.size = go at *
  clear w1
  go_wp2_with fail
  have hrep := zzrepeat_any w3 w.heap.size l e f p dist n HT.out.buf (by rw [HL.out]; exact h1) (by rw [HL.out]; exact he) (by rw [HL.out]; exact hf) (by rw [HL.out]; exact hp) hd (by rw [HL.out]; exact hdm) HN.out
  rw [HL.out] at hrep
  refine hrep.mono ?_
  clear hrep
  obtain ⟨K, hK⟩ : ∃ K, K = min n (m - p) := ⟨_, rfl⟩
  rw [← hK]
  rintro r w4 ⟨rfl, hB4, hg4⟩
  have HT4 := hide (HT.out.put hB4 hg4)
  clear hB4 hg4 HT
  have hKm : K ≤ m := by omega
  have HX : Hid (∀ q, q < m → Cell5 w4 w.heap.size go m K e dist q) := fun q hq => cell5 HT4.out HL.out he hq hd hdm hKm
  have HB := hide HT4.out.below
  clear HT4
  by_cases hnk : n < m - p
  case' pos =>
    obtain rfl : K = n := by omega
    have j1 : (K : Int) < (m : Int) - (p : Int) := by omega
  case' neg =>
    have j0 : (m : Int) - (p : Int) = (K : Int) := by omega
    have j1 : ¬ (n : Int) < (K : Int) := by omega
  all_goals
    clear hK
    by_cases hfk : m < f + K
    case' pos => have hmn : min (f + K) m = m := Nat.min_eq_right (by omega)
    case' neg => have hmn : min (f + K) m = f + K := Nat.min_eq_left (by omega)
    all_goals
      go_wp2_with fail
      go_loop [21] (fun q => ∃ q0 : Nat, q0 ≤ m ∧ q = .int .i64 q0) (fun q => m - (intOf q).toNat)
      case atStart => exact ⟨0, Nat.zero_le _, rfl⟩
      case round =>
        obtain ⟨q, hq, rfl⟩ := hrel
        by_cases hqm : q < m
        · obtain ⟨d, hdm2, hqd, hcells⟩ := HX.out q hqm
          clear HX
          rcases hqd with ⟨hqe, hqd⟩ | ⟨hqe, hqd⟩
          all_goals
            rcases hcells with ⟨hdk, v, cB, cO⟩ | ⟨hdk, v, v', cB, cO, t, src, ht, htd, hsm, ⟨hs0, hs1⟩ | ⟨hs0, hs1⟩, cS⟩
            all_goals
              go_wp2
              go_round
              case rel => exact ⟨q + 1, by omega, by go_num⟩
              case measure => simp [intOf]; omega
        · go_wp2
          go_ret
          exact ⟨rfl, HB.out⟩

theorem all5 (w : World) (a : Option Addr) (m c : Nat) (l : List Int) (e f p d n : Int) (hs : Src w a m c l) (h1 : m ≤ maxLen) (hn : n ≤ 9223372036854775807) :
    Calls Try.prog 5 #[.slice a m c, .int .i64 e, .int .i64 f, .int .i64 p, .int .i64 d, .int .i64 n] w fun r w' => r = .returned (.bool true) ∧ Below w.heap.size w w' := by
  by_cases h : Ok5 m e f p d n
  · obtain ⟨g1, g2, g3, g4, g5, g6, g7, g8, g9, g10, g11⟩ := h
    obtain ⟨e, rfl⟩ := Int.eq_ofNat_of_zero_le g3
    obtain ⟨f, rfl⟩ := Int.eq_ofNat_of_zero_le g5
    obtain ⟨p, rfl⟩ := Int.eq_ofNat_of_zero_le g7
    obtain ⟨d, rfl⟩ := Int.eq_ofNat_of_zero_le (show 0 ≤ d by omega)
    obtain ⟨n, rfl⟩ := Int.eq_ofNat_of_zero_le g11
    exact main5 w a m c l e f p d n hs g1 (by omega) (by omega) (by omega) (by omega) (by omega) (by unfold maxLen; omega)
  · exact early5 w a m c e f p d n h1 h
theorem le_of_wf {p : Int} (h : (Lit.int .i64 p).wf = true) : p ≤ 9223372036854775807 := by
  simp only [Lit.wf, IntKind.min, IntKind.max, IntKind.signed, IntKind.bits, Bool.and_eq_true, decide_eq_true_eq, if_true] at h
  omega
end Go.Proofs.Qxb6602659a.Win
