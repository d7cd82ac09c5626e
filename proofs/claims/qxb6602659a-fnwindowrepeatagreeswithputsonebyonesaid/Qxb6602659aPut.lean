import Derived.Test.Qxb6602659aClone
import Derived.Test.Qxb6602659aRing
namespace Go.Proofs.Qxb6602659a.Win
open Go.RowKit

/-- The inputs that the law speaks of. -/
def Ok3 (n n' : Nat) (e f : Int) : Prop := n ≤ 524288 ∧ n' ≤ 524288 ∧ 0 < n ∧ 0 ≤ e ∧ e < n ∧ 0 ≤ f ∧ f ≤ n

set_option maxHeartbeats 1000000 in
theorem early3 (w : World) (a : Option Addr) (n c : Nat) (e f p : Int) (a' : Option Addr) (n' c' : Nat) (h1 : n ≤ maxLen) (h2 : n' ≤ maxLen) (hno : ¬ Ok3 n n' e f) :
    Calls Try.prog 3 #[.slice a n c, .int .i64 e, .int .i64 f, .int .i64 p, .slice a' n' c'] w fun r w' => r = .returned (.bool true) ∧ Below w.heap.size w w' := by
  have HN := hide hno
  clear hno
  have h1' := h1
  have h2' := h2
  unfold maxLen at h1' h2'
  by_cases hb : n + n' ≤ 1048576
  · go_enter Try.func3, Try.ntmps3
    go_wp2_with (go_at_call 8; refine (bytes3 w a n c e f p a' n' c' h1 h2).mono ?_; rintro r w' ⟨rfl, rfl⟩)
    all_goals first
      | (go_ret; exact ⟨rfl, Below.refl _ _⟩)
      | skip
    have hz : ((n : Int) == 0) = false := by assumption
    have hz' : n ≠ 0 := by intro h; rw [h] at hz; simp at hz
    refine absurd ?_ HN.out
    unfold Ok3
    exact ⟨by omega, by omega, by omega, by omega, by omega, by omega, by omega⟩
  · go_enter Try.func3, Try.ntmps3
    go_wp2_with (go_at_call 8; refine (bytes3 w a n c e f p a' n' c' h1 h2).mono ?_; rintro r w' ⟨rfl, rfl⟩)
    go_ret
    exact ⟨rfl, Below.refl _ _⟩

theorem src_row {w : World} {g : Nat} {l : List Int} (h : w.heap[g]? = some (.cells (cells l) 5 (0, 0))) : Src w (some ⟨g, 0, none⟩) l.length l.length l :=
  ⟨rfl, .inr ⟨_, rfl, fun j hj => by
    rw [show (⟨g, 0, none⟩ : Addr).add j = ⟨g, j, none⟩ by unfold Addr.add; split <;> simp_all, cell_of_row _ _ _ _ _ _ h]
    exact cells_at l j hj⟩⟩
theorem src_later {w w' : World} {a : Option Addr} {n c : Nat} {l : List Int} (h : Src w a n c l) (hb : Below w.heap.size w w') : Src w' a n c l := by
  obtain ⟨hl, h⟩ := h
  refine ⟨hl, ?_⟩
  rcases h with h | ⟨x, rfl, h⟩
  · exact .inl h
  · refine .inr ⟨x, rfl, fun j hj => ?_⟩
    have := h j hj
    rw [hb.cell (block_lt_of_cell this)]
    exact this

/-- The three rows of the law, and old memory. -/
structure St (w wr : World) (gb gs go : Nat) (B l s : List Int) (n : Nat) : Prop where
  buf : wr.heap[gb]? = some (.cells (cells B) 5 (0, 0))
  str : 0 < n → wr.heap[gs]? = some (.cells (cells s) 5 (0, 0))
  orig : wr.heap[go]? = some (.cells (cells l) 5 (0, 0))
  below : Below w.heap.size w wr
  own : w.heap.size ≤ gb
  ne1 : gb < gs
  ne2 : gb < go
theorem lt_of_some {w : World} {g : Nat} {o : Obj} (h : w.heap[g]? = some o) : g < w.heap.size := by
  by_cases hg : g < w.heap.size
  · exact hg
  · rw [Array.getElem?_eq_none (by omega)] at h; cases h
theorem keep {w w' : World} {g : Nat} {o : Obj} (h : w.heap[g]? = some o) (hb : Below w.heap.size w w') : w'.heap[g]? = some o := by
  rw [hb.block g (lt_of_some h)]; exact h
theorem St.put {w wr w1 : World} {gb gs go : Nat} {B l s B' : List Int} {n : Nat} (h : St w wr gb gs go B l s n) (hB : w1.heap[gb]? = some (.cells (cells B') 5 (0, 0))) (hg : wr.grownBy w1 (some gb)) :
    St w w1 gb gs go B' l s n := by
  have h1 := h.ne1
  have h2 := h.ne2
  refine ⟨hB, fun hn => ?_, ?_, h.below.grown hg h.below.size (fun k hk => by cases hk; exact h.own), h.own, h.ne1, h.ne2⟩
  · rw [hg.block gs (lt_of_some (h.str hn)) (by simp; omega)]; exact h.str hn
  · rw [hg.block go (lt_of_some h.orig) (by simp; omega)]; exact h.orig
theorem St.start {w w1 w2 w3 : World} {l s : List Int} {n : Nat} (R0 : w1.heap[w.heap.size]? = some (.cells (cells l) 5 (0, 0))) (R1 : 0 < n → w2.heap[w1.heap.size]? = some (.cells (cells s) 5 (0, 0)))
    (R2 : w3.heap[w2.heap.size]? = some (.cells (cells l) 5 (0, 0))) (B0 : Below w.heap.size w w1) (B1 : Below w1.heap.size w1 w2) (B2 : Below w2.heap.size w2 w3) : St w w3 w.heap.size w1.heap.size w2.heap.size l l s n := by
  have h1 := lt_of_some R0
  have h2 := B1.size
  exact ⟨keep (keep R0 B1) B2, fun hn => keep (R1 hn) B2, R2, (B0.trans (B1.mono (by omega))).trans (B2.mono (by omega)), Nat.le_refl _, h1, by omega⟩

theorem wrap_next (p : Int) (k : Nat) : wrap64 (wrap64 (p + k) + 1) = wrap64 (p + ((k + 1 : Nat) : Int)) := by
  unfold wrap64; omega

/-- What the last loop meets at place q: the cells, and the numbers as the walk reckons them. -/
def Cell3 (wr : World) (gb gs go n k e q : Nat) : Prop :=
  (q < e ∧ ∃ d : Nat, ((q : Int) - (e : Int) + (n : Int) = (d : Int)) ∧ ∃ v : Int, d < n ∧ ¬ d < k ∧ wr.cell? ⟨gb, q, none⟩ = some (.int .u8 v) ∧ wr.cell? ⟨go, q, none⟩ = some (.int .u8 v)) ∨
  (q < e ∧ ∃ d : Nat, ((q : Int) - (e : Int) + (n : Int) = (d : Int)) ∧ ∃ v v' : Int, d < n ∧ d < k ∧ wr.cell? ⟨gb, q, none⟩ = some (.int .u8 v) ∧ wr.cell? ⟨go, q, none⟩ = some (.int .u8 v') ∧
    ∃ t u : Nat, ((k : Int) - 1 - (d : Int)) / (n : Int) = (t : Int) ∧ (n : Int) * (t : Int) = (u : Int) ∧ d + u < k ∧ wr.cell? ⟨gs, d + u, none⟩ = some (.int .u8 v)) ∨
  (¬ q < e ∧ ∃ d : Nat, ((q : Int) - (e : Int) = (d : Int)) ∧ ∃ v : Int, d < n ∧ ¬ d < k ∧ wr.cell? ⟨gb, q, none⟩ = some (.int .u8 v) ∧ wr.cell? ⟨go, q, none⟩ = some (.int .u8 v)) ∨
  (¬ q < e ∧ ∃ d : Nat, ((q : Int) - (e : Int) = (d : Int)) ∧ ∃ v v' : Int, d < n ∧ d < k ∧ wr.cell? ⟨gb, q, none⟩ = some (.int .u8 v) ∧ wr.cell? ⟨go, q, none⟩ = some (.int .u8 v') ∧
    ∃ t u : Nat, ((k : Int) - 1 - (d : Int)) / (n : Int) = (t : Int) ∧ (n : Int) * (t : Int) = (u : Int) ∧ d + u < k ∧ wr.cell? ⟨gs, d + u, none⟩ = some (.int .u8 v))
theorem cell3 {w wr : World} {gb gs go n k e q : Nat} {l s : List Int} (h : St w wr gb gs go (Ring.puts l e s k) l s k) (hl : l.length = n) (hsl : s.length = k) (he : e < n) (hq : q < n) :
    Cell3 wr gb gs go n k e q := by
  have hat := Ring.puts_at l e s (by omega) k q (by omega)
  rw [hl] at hat
  have hoff := Ring.off_lt he hq
  have cB : wr.cell? ⟨gb, q, none⟩ = some (.int .u8 ((Ring.puts l e s k).getD q 0)) := by
    rw [cell_of_row _ _ _ _ _ _ h.buf]; exact cells_at _ q (by rw [Ring.puts_length]; omega)
  have cO : wr.cell? ⟨go, q, none⟩ = some (.int .u8 (l.getD q 0)) := by
    rw [cell_of_row _ _ _ _ _ _ h.orig]; exact cells_at _ q (by omega)
  rw [hat] at cB
  have hcase : ∀ d : Nat, Ring.off n e q = d → d < k → ∃ t u : Nat, ((k : Int) - 1 - (d : Int)) / (n : Int) = (t : Int) ∧ (n : Int) * (t : Int) = (u : Int) ∧ d + u < k ∧ wr.cell? ⟨gs, d + u, none⟩ = some (.int .u8 (s.getD (d + n * ((k - 1 - d) / n)) 0)) := by
    intro d _ hdk
    refine ⟨(k - 1 - d) / n, n * ((k - 1 - d) / n), ?_, by push_cast; rfl, ?_, ?_⟩
    · rw [show (k : Int) - 1 - (d : Int) = ((k - 1 - d : Nat) : Int) by omega]; rfl
    · have := Nat.mul_div_le (k - 1 - d) n; omega
    · rw [cell_of_row _ _ _ _ _ _ (h.str (by omega))]
      refine cells_at _ _ ?_
      have := Nat.mul_div_le (k - 1 - d) n
      omega
  by_cases hqe : q < e
  · have ho : Ring.off n e q = q + n - e := by unfold Ring.off; rw [if_pos hqe]
    by_cases hk : Ring.off n e q < k
    · rw [if_pos hk] at cB
      exact .inr (.inl ⟨hqe, Ring.off n e q, by omega, _, _, hoff, hk, cB, cO, hcase _ rfl hk⟩)
    · rw [if_neg hk] at cB
      exact .inl ⟨hqe, Ring.off n e q, by omega, _, hoff, hk, cB, cO⟩
  · have ho : Ring.off n e q = q - e := by unfold Ring.off; rw [if_neg hqe]
    by_cases hk : Ring.off n e q < k
    · rw [if_pos hk] at cB
      exact .inr (.inr (.inr ⟨hqe, Ring.off n e q, by omega, _, _, hoff, hk, cB, cO, hcase _ rfl hk⟩))
    · rw [if_neg hk] at cB
      exact .inr (.inr (.inl ⟨hqe, Ring.off n e q, by omega, _, hoff, hk, cB, cO⟩))

set_option maxHeartbeats 2000000 in
theorem main3 (w : World) (a : Option Addr) (n c : Nat) (l : List Int) (e f : Nat) (p : Int) (a' : Option Addr) (n' c' : Nat) (s : List Int) (hs : Src w a n c l) (hs' : Src w a' n' c' s)
    (h1 : n ≤ 524288) (h2 : n' ≤ 524288) (he : e < n) (hf : f ≤ n) (hp : wrap64 p = p) :
    Calls Try.prog 3 #[.slice a n c, .int .i64 e, .int .i64 f, .int .i64 p, .slice a' n' c'] w fun r w' => r = .returned (.bool true) ∧ Below w.heap.size w w' := by
  have hl : l.length = n := hs.1
  have HL := hide hl
  have HL' := hide hs'.1
  have HP := hide hp
  have HS := hide hs
  have HS' := hide hs'
  clear hs hs' hl hp
  have hz : ((n : Int) == 0) = false := by rw [beq_eq_false_iff_ne]; omega
  have hb : decide (n + n' ≤ 1048576) = true := by simp; omega
  go_enter Try.func3, Try.ntmps3
  go_wp2_with (go_at_call 8; refine (bytes3 w a n c e f p a' n' c' (by unfold maxLen; omega) (by unfold maxLen; omega)).mono ?_; rintro r w' ⟨rfl, hw⟩; subst w'; rw [hb])
  refine (clone_src _ a n c l HS.out (by omega)).mono ?_
  rintro r w1 ⟨b0, rfl, hb0, hr0, hB0⟩
  obtain rfl := hb0 (by omega)
  have R0 := hide (hr0 (by omega))
  have B0 := hide hB0
  clear hb0 hr0 hB0
  go_wp2_with fail
  refine (clone_src _ a' n' c' s (src_later HS'.out B0.out) (by omega)).mono ?_
  rintro r w2 ⟨b1, rfl, hb1, hr1, hB1⟩
  have S1 := hide hb1
  have R1 := hide hr1
  have B1 := hide hB1
  clear hb1 hr1 hB1
  go_wp2_with fail
  have hsr := src_row (keep R0.out B1.out)
  rw [HL.out] at hsr
  refine (clone_src _ _ n n l hsr (by omega)).mono ?_
  rintro r w3 ⟨b2, rfl, hb2, hr2, hB2⟩
  obtain rfl := hb2 (by omega)
  have hT := St.start R0.out R1.out (hr2 (by omega)) B0.out B1.out hB2
  have HT := hide hT
  clear hb2 hr2 hB2 hsr hT R0 R1 B0 B1 HS HS'
  generalize w1.heap.size = gs at *
  generalize w2.heap.size = go at *
  clear w1 w2
  go_wp2_with fail
  go_loopw [14, 15, 16, 17] (fun e1 f1 p1 i wr => ∃ k : Nat, k ≤ n' ∧ i = .int .i64 k ∧ e1 = .int .i64 ((e + k) % n : Nat) ∧ f1 = .int .i64 (min (f + k) n : Nat) ∧ p1 = .int .i64 (wrap64 (p + k)) ∧ Hid (St w wr w.heap.size gs go (Ring.puts l e s k) l s n'))
    (fun _ _ _ i _ => n' - (intOf i).toNat)
  case atStart =>
    refine ⟨0, Nat.zero_le _, rfl, ?_, ?_, ?_, HT⟩
    · rw [Nat.add_zero, Nat.mod_eq_of_lt he]
    · rw [Nat.add_zero, Nat.min_eq_left hf]
    · rw [show p + ((0 : Nat) : Int) = p by omega, HP.out]
  case round =>
    clear HT
    obtain ⟨k, hk, rfl, rfl, rfl, rfl, HT⟩ := hrel
    by_cases hlt : k < n'
    · obtain rfl := S1.out (by omega)
      have hT := HT.out
      have cs : wr.cell? ⟨gs, k, none⟩ = some (.int .u8 (s.getD k 0)) := by
        rw [cell_of_row _ _ _ _ _ _ (hT.str (by omega))]; exact cells_at s k (by rw [HL'.out]; omega)
      have i0 : (0 : Int) ≤ (k : Int) := by omega
      have i1 : (k : Int) < (n' : Int) := by omega
      have hlen := Ring.puts_length l e s k
      rw [HL.out] at hlen
      have hem : (e + k) % n < n := Nat.mod_lt _ (by omega)
      have hz2 := zzput_any wr w.heap.size (Ring.puts l e s k) ((e + k) % n) (min (f + k) n) (wrap64 (p + k)) (s.getD k 0) hT.buf (by rw [hlen]; exact hem) (by rw [hlen]; omega) (by rw [hlen]; exact h1)
      rw [hlen] at hz2
      have HZ := hide hz2
      have E1 : Hid (nextE n ((e + k) % n) = (e + (k + 1)) % n) := Ring.next_mod (by omega)
      have E2 : Hid (nextF n (min (f + k) n) = min (f + (k + 1)) n) := Ring.next_min
      have E3 : Hid (wrap64 (wrap64 (p + k) + 1) = wrap64 (p + ((k + 1 : Nat) : Int))) := wrap_next p k
      have E4 : Hid ((Ring.puts l e s k).set ((e + k) % n) (s.getD k 0) = Ring.puts l e s (k + 1)) := by show _ = (Ring.puts l e s k).set ((e + k) % l.length) (s.getD k 0); rw [HL.out]
      clear hz2 hT hlen
      generalize s.getD k 0 = sb at *
      generalize (e + k) % n = ek at *
      generalize min (f + k) n = fk at *
      generalize wrap64 (p + k) = pk at *
      go_wp2_with (go_at_call 10; refine HZ.out.mono ?_; rintro r w5 ⟨rfl, hB5, hg5⟩)
      go_roundw
      case rel =>
        refine ⟨k + 1, by omega, by go_num, by rw [E1.out], by rw [E2.out], by rw [E3.out], ?_⟩
        rw [E4.out] at hB5
        exact hide (HT.out.put hB5 hg5)
      case measure => simp [intOf]; omega
    · obtain rfl : k = n' := by omega
      have HX : Hid (∀ q, q < n → Cell3 wr w.heap.size gs go n k e q) := fun q hq => cell3 HT.out HL.out HL'.out he hq
      have HB := hide HT.out.below
      clear HT
      by_cases hfk : n < f + k
      case' pos => have hmn : min (f + k) n = n := Nat.min_eq_right (by omega)
      case' neg => have hmn : min (f + k) n = f + k := Nat.min_eq_left (by omega)
      all_goals
        go_wp2_with fail
        go_loop [19] (fun q => ∃ q0 : Nat, q0 ≤ n ∧ q = .int .i64 q0) (fun q => n - (intOf q).toNat)
        case atStart => exact ⟨0, Nat.zero_le _, rfl⟩
        case round =>
          obtain ⟨q, hq, rfl⟩ := hrel
          by_cases hqn : q < n
          · rcases HX.out q hqn with ⟨hqe, d, hd, v, hdn, hdk, cB, cO⟩ | ⟨hqe, d, hd, v, v', hdn, hdk, cB, cO, t, u, ht, hu, hlt2, cS⟩ | ⟨hqe, d, hd, v, hdn, hdk, cB, cO⟩ | ⟨hqe, d, hd, v, v', hdn, hdk, cB, cO, t, u, ht, hu, hlt2, cS⟩
            · clear HX
              go_wp2
              go_round
              case rel => exact ⟨q + 1, by omega, by go_num⟩
              case measure => simp [intOf]; omega
            · have := S1.out (by omega)
              subst this
              clear HX
              go_wp2
              go_round
              case rel => exact ⟨q + 1, by omega, by go_num⟩
              case measure => simp [intOf]; omega
            · clear HX
              go_wp2
              go_round
              case rel => exact ⟨q + 1, by omega, by go_num⟩
              case measure => simp [intOf]; omega
            · have := S1.out (by omega)
              subst this
              clear HX
              go_wp2
              go_round
              case rel => exact ⟨q + 1, by omega, by go_num⟩
              case measure => simp [intOf]; omega
          · go_wp2
            go_ret
            exact ⟨rfl, HB.out⟩
/-- Out of the shell's word on a slice that came in. -/
theorem src_of {w : World} {a : Option Addr} {len cap : Nat} {zs : List Int}
    (h : (a = none ∧ len = 0 ∧ cap = 0 ∧ zs = []) ∨ ∃ x, a = some x ∧ len ≤ cap ∧ cap ≤ maxLen ∧ zs.length = cap ∧ (∀ i, i < zs.length → w.cell? (x.add i) = some (.int .u8 (zs.getD i 0))) ∧ ∀ n ∈ zs, (Lit.int .u8 n).wf = true) :
    Src w a len cap (zs.take len) ∧ len ≤ maxLen := by
  rcases h with ⟨rfl, rfl, rfl, rfl⟩ | ⟨x, rfl, h1, h2, h3, h4, _⟩
  · exact ⟨⟨rfl, .inl ⟨rfl, rfl, rfl⟩⟩, by unfold maxLen; omega⟩
  · refine ⟨⟨by simp; omega, .inr ⟨x, rfl, fun j hj => ?_⟩⟩, by omega⟩
    rw [h4 j (by omega)]
    have : (zs.take len).getD j 0 = zs.getD j 0 := by simp [List.getD, hj]
    rw [this]
theorem wrap_of_wf {p : Int} (h : (Lit.int .i64 p).wf = true) : wrap64 p = p := by
  simp only [Lit.wf, IntKind.min, IntKind.max, IntKind.signed, IntKind.bits, Bool.and_eq_true, decide_eq_true_eq, if_true] at h
  unfold wrap64
  omega
theorem all3 (w : World) (a : Option Addr) (n c : Nat) (l : List Int) (e f p : Int) (a' : Option Addr) (n' c' : Nat) (s : List Int) (hs : Src w a n c l) (hs' : Src w a' n' c' s)
    (h1 : n ≤ maxLen) (h2 : n' ≤ maxLen) (hp : wrap64 p = p) :
    Calls Try.prog 3 #[.slice a n c, .int .i64 e, .int .i64 f, .int .i64 p, .slice a' n' c'] w fun r w' => r = .returned (.bool true) ∧ Below w.heap.size w w' := by
  by_cases h : Ok3 n n' e f
  · obtain ⟨g1, g2, g3, g4, g5, g6, g7⟩ := h
    obtain ⟨e, rfl⟩ := Int.eq_ofNat_of_zero_le g4
    obtain ⟨f, rfl⟩ := Int.eq_ofNat_of_zero_le g6
    exact main3 w a n c l e f p a' n' c' s hs hs' g1 g2 (by omega) (by omega) hp
  · exact early3 w a n c e f p a' n' c' h1 h2 h
end Go.Proofs.Qxb6602659a.Win
