import Derived.Test.Qxb6602659aClone
import Derived.Test.Qxb6602659aRing2
import Derived.WalkLawsBesides
import Derived.Deep.RegionHeld3
import Derived.Deep.CutRange
import Derived.Deep.DrawnRows
namespace Go.Proofs.Qxb6602659a.Win
open Go.RowKit

set_option maxHeartbeats 1000000 in
theorem room_any (w : World) (g H : Nat) (l : List Int) (e f : Int) (p : Nat) (hW : Win w g H l e f p) (hl : l.length ≤ 524288) (hp : p ≤ l.length) :
    Calls Try.prog 20 #[.pointer (some ⟨H, 0, none⟩)] w fun r w' => r = .returned (.int .i64 ((l.length : Int) - p)) ∧ ∃ q, w' = w.drewN q := by
  have c0 := hW.c0; have c3 := hW.c3
  have HW := hide hW
  clear hW
  generalize l.length = m at *
  go_enter Try.func20, Try.ntmps20
  go_wp2
  go_quiet (fail)
  go_wp2
  go_ret
  exact ⟨rfl, _, rfl⟩

theorem Two.trans {g H : Nat} {a b c : World} (h : Two g H a b) (k : Two g H b c) : Two g H a c :=
  ⟨k.os.trans h.os, k.tape.trans h.tape, k.output.trans h.output, k.size.trans h.size, fun i h1 h2 => (k.block i h1 h2).trans (h.block i h1 h2)⟩
theorem splice_rep {l : List Int} {e dist j r m : Nat} (hm : l.length = m) (hdm : dist ≤ m) (h0 : 0 < m) (h1 : (e + j) % m + r ≤ m) (h2 : r ≤ dist) (h3 : Ring.back m dist ((e + j) % m) + r ≤ m) :
    splice (Ring.rep l e dist j) ((e + j) % m) (((Ring.rep l e dist j).drop (Ring.back m dist ((e + j) % m))).take r) = Ring.rep l e dist (j + r) := by
  subst hm
  have hlen := Ring.rep_length l e dist j
  have hlen2 := Ring.rep_length l e dist (j + r)
  have hrun := Ring.rep_run l e dist j r hdm h0 h1 h2 h3
  generalize (e + j) % l.length = E at *
  generalize Ring.back l.length dist E = F at *
  have hcs : (((Ring.rep l e dist j).drop F).take r).length = r := by simp [hlen]; omega
  have hl3 := length_splice (Ring.rep l e dist j) E (((Ring.rep l e dist j).drop F).take r) (by rw [hcs, hlen]; exact h1)
  apply List.ext_getElem (by omega)
  intro q hq1 hq2
  have hq : q < l.length := by omega
  have h := hrun q hq
  have e1 : (Ring.rep l e dist (j + r)).getD q 0 = (Ring.rep l e dist (j + r))[q] := by simp [List.getD, hq2]
  rw [← e1, h]
  have e2 : (splice (Ring.rep l e dist j) E (((Ring.rep l e dist j).drop F).take r))[q] = (splice (Ring.rep l e dist j) E (((Ring.rep l e dist j).drop F).take r)).getD q 0 := by simp [List.getD, hq1]
  rw [e2]
  unfold splice
  rw [hcs]
  by_cases hc : E ≤ q ∧ q < E + r
  · rw [if_pos hc]
    simp only [List.getD]
    rw [List.getElem?_append_right (by simp; omega), List.getElem?_append_left (by simp [hlen]; omega)]
    congr 1
    rw [List.getElem?_take_of_lt (by simp [hlen]; omega), List.getElem?_drop]
    congr 1
    simp [hlen]; omega
  · rw [if_neg hc]
    simp only [List.getD]
    by_cases hc2 : q < E
    · rw [List.getElem?_append_left (by simp [hlen]; omega), List.getElem?_take_of_lt hc2]
    · rw [List.getElem?_append_right (by simp; omega), List.getElem?_append_right (by simp [hlen]; omega), List.getElem?_drop]
      congr 2
      simp [hlen]; omega

theorem step_copy_win {ops : Array Oper} {o : Oper} {a : Act} {w : World} {K : Act → World → Prop} {Q : Exit → Act → World → Prop} {Ep : Prop} {g H : Nat} {B : List Int} {e f p : Int} (hgd : o.guard = none) (d s : Operand)
    (ho : o.op = .call { callee := .builtin .copy, args := #[d, s], argTypes := #[22, 22] }) (E F dLen dCap sLen sCap r : Nat)
    (hd : a.eval d = .slice (some ⟨g, E, none⟩) dLen dCap) (hs : a.eval s = .slice (some ⟨g, F, none⟩) sLen sCap) (hW : Win w g H B e f p) (hr : r = Nat.min sLen dLen) (hE : E + r ≤ B.length) (hF : F + r ≤ B.length) (m : Nat) (hm : B.length = m)
    (h : ∀ w', Hid (Win w' g H (splice B E ((B.drop F).take r)) e f p) → Hid (Two g H w w') → w'.cell? ⟨H, 0, none⟩ = some (.slice (some ⟨g, 0, none⟩) m m) → w'.cell? ⟨H, 1, none⟩ = some (.int .i64 e) → K (a.put o.dst (goInt r)) w') :
    if Region.wanted o (yielded ops a.tmps) = true then Oper.wp Try.prog o a w K Q else Ep := by
  have hw : Region.wanted o (yielded ops a.tmps) = true := by simp [Region.wanted, hgd]
  rw [if_pos hw]
  have hcl : (((B.drop F).take r).map (Value.int .u8)).length = r := by simp; omega
  have hrun := run_copy_row (P := Try.prog) w 22 22 o.type 5 g E dLen dCap ⟨g, F, none⟩ sLen sCap (cells B) 5 (((B.drop F).take r).map (Value.int .u8)) Try.underlying22 (by kernel_rfl) hW.buf (by rw [hcl]; exact hr)
    (by
      intro j v hv
      have hj : j < r := by
        have := (List.getElem?_eq_some_iff.1 hv).1
        omega
      rw [show (⟨g, F, none⟩ : Addr).add j = ⟨g, F + j, none⟩ by unfold Addr.add; split <;> simp_all, cell_of_row _ _ _ _ _ _ hW.buf, cells_at _ _ (by omega)]
      have e1 : (((B.drop F).take r).map (Value.int .u8))[j]? = some (.int .u8 (B.getD (F + j) 0)) := by
        have : F + j < B.length := by omega
        simp [List.getD, hj, this]
      rw [e1] at hv
      exact hv)
    (by rw [hcl, cells_size]; exact hE) (ints_oneCell .u8 _)
  have hcl2 : ((B.drop F).take r).length = r := by simp; omega
  have erow : cells (splice B E ((B.drop F).take r)) = (List.take E (cells B).toList ++ ((((B.drop F).take r).map (Value.int .u8)) ++ List.drop (E + r) (cells B).toList)).toArray := by
    unfold splice cells
    rw [hcl2]
    simp
  have hl : (splice B E ((B.drop F).take r)).length = B.length := length_splice _ _ _ (by rw [hcl2]; exact hE)
  have hW5 : Win (w.setRow g (cells (splice B E ((B.drop F).take r)))) g H (splice B E ((B.drop F).take r)) e f p :=
    ⟨setRow_heap _ _ _ _ _ _ hW.buf, by rw [setRow_other _ _ _ _ (Ne.symm hW.ne), hl]; exact hW.box, hW.ne⟩
  have hfin := h (w.setRow g (cells (splice B E ((B.drop F).take r)))) hW5 ⟨rfl, rfl, rfl, by simp, fun k h1 _ => setRow_other _ _ _ _ h1⟩ (by rw [hW5.c0, hl, hm]) hW5.c1
  unfold Oper.wp
  rw [hcl] at hrun
  simp only [List.append_assoc] at hrun
  rw [← erow] at hrun
  generalize cells (splice B E ((B.drop F).take r)) = arr at hrun hfin
  simp [execOp, ho, resolve, invoke, builtin, hd, hs, hrun, Result.andThen]
  exact hfin

set_option maxRecDepth 100000 in
set_option maxHeartbeats 4000000 in
theorem repeat_any (w : World) (g H : Nat) (l : List Int) (e f p dist n : Nat) (hW : Win w g H l e f p) (hl : l.length ≤ 524288) (he : e < l.length) (hf : f ≤ l.length) (hp : p ≤ l.length) (hd : 0 < dist) (hdm : dist ≤ l.length) (_hn : n ≤ maxLen) :
    Calls Try.prog 18 #[.pointer (some ⟨H, 0, none⟩), .int .i64 dist, .int .i64 n] w fun r w' => r = .returned (.int .i64 (min n (l.length - p) : Nat)) ∧
      Win w' g H (Ring.rep l e dist (min n (l.length - p))) ((e + min n (l.length - p)) % l.length : Nat) (min (f + min n (l.length - p)) l.length : Nat) (p + min n (l.length - p) : Nat) ∧ Two g H w w' := by
  unfold maxLen at _hn
  have c0 := hW.c0; have c1 := hW.c1
  have HW := hide hW
  have hroom := room_any w g H l e f p hW hl hp
  have HR := hide hroom
  clear hW hroom
  generalize hm : l.length = m at *
  obtain ⟨k, hk⟩ : ∃ k, k = min n (m - p) := ⟨_, rfl⟩
  have hk1 : min (n : Int) ((m : Int) - (p : Int)) = (k : Int) := by omega
  rw [← hk]
  have HK := hide hk
  have hkm : k + p ≤ m := by omega
  clear hk
  go_enter Try.func18, Try.ntmps18
  go_upto_region 1 with fail
  go_cut [2] from 10 to 29 (fun v w' => v = .int .i64 k ∧ ∃ q, w' = w.drewN q)
  case first =>
    by_cases hnp : n ≤ m - p
    · have hk2 : k = n := by have := HK.out; omega
      have i1 : (n : Int) ≤ (m : Int) - (p : Int) := by omega
      go_wp2_with (go_at_call 20; refine HR.out.mono ?_; rintro r w1 ⟨rfl, q, rfl⟩)
      go_meet
      case rel => exact ⟨by rw [hk2], _, rfl⟩
    · have hk2 : ((m : Int) - (p : Int)) = k := by have := HK.out; omega
      have i1 : (k : Int) < (n : Int) := by omega
      have H2 := hide hk2
      clear hk2
      go_wp2_with (go_at_call 20; refine HR.out.mono ?_; rintro r w1 ⟨rfl, q, rfl⟩)
      go_meet
      case rel => exact ⟨by rw [H2.out], _, rfl⟩
  case rest =>
  obtain ⟨rfl, q0, rfl⟩ := hcut
  clear hk1 HR
  go_upto_if 21 with fail
  go_cut [7] from 10 to 29 (fun v w' => v = .int .i64 (Ring.back m dist e) ∧ w' = w.drewN q0)
  case first =>
    by_cases hde : dist ≤ e
    · have i1 : ¬ ((e : Int) - (dist : Int) < 0) := by omega
      go_wp2
      go_meet
      case rel => exact ⟨by rw [show ((Ring.back m dist e : Nat) : Int) = (e : Int) - dist by unfold Ring.back; rw [if_pos hde]; omega], rfl⟩
    · have i1 : ((e : Int) - (dist : Int) < 0) := by omega
      go_wp2
      go_meet
      case rel => exact ⟨by rw [show ((Ring.back m dist e : Nat) : Int) = (e : Int) - dist + m by unfold Ring.back; rw [if_neg hde]; omega], rfl⟩
  case rest =>
  obtain ⟨rfl, rfl⟩ := hcut
  go_wp2
  go_loopw [7, 8] (fun fr lf wr => ∃ j : Nat, j ≤ k ∧ lf = .int .i64 (k - j : Nat) ∧ fr = .int .i64 (Ring.back m dist ((e + j) % m)) ∧ Hid (Win wr g H (Ring.rep l e dist j) ((e + j) % m : Nat) f p) ∧ Hid (Two g H w wr))
    (fun _ lf _ => (intOf lf).toNat)
  case atStart =>
    refine ⟨0, Nat.zero_le _, rfl, ?_, ?_, ?_⟩
    · rw [Nat.add_zero, Nat.mod_eq_of_lt he]
    · rw [Nat.add_zero, Nat.mod_eq_of_lt he]; exact HW.out.drewN _
    · exact (Two.refl _ _ _).drewN _
  case round =>
    clear c0 c1 HW
    obtain ⟨j, hj, rfl, rfl, HW, HT⟩ := hrel
    by_cases hjk : j < k
    · have hE : (e + j) % m < m := Nat.mod_lt _ (by omega)
      have hF : Ring.back m dist ((e + j) % m) < m := Ring.back_lt hE hd
      obtain ⟨L, hL⟩ : ∃ L, L = k - j := ⟨_, rfl⟩
      rw [← hL]
      have HL := hide hL
      have hL0 : 0 < L := by omega
      have hLm : L ≤ m := by omega
      clear hL
      have hlen := Ring.rep_length l e dist j
      rw [hm] at hlen
      have c0 := HW.out.c0
      have c1 := HW.out.c1
      rw [hlen] at c0
      have hfin : Hid (∀ r : Nat, (e + j) % m + r ≤ m → r ≤ dist → Ring.back m dist ((e + j) % m) + r ≤ m → splice (Ring.rep l e dist j) ((e + j) % m) (((Ring.rep l e dist j).drop (Ring.back m dist ((e + j) % m))).take r) = Ring.rep l e dist (j + r)) :=
        fun r a b c => splice_rep hm hdm (by omega) a b c
      generalize hB : Ring.rep l e dist j = B at *
      generalize hEE : (e + j) % m = E at *
      generalize hFF : Ring.back m dist E = F at *
      have HEE := hide hEE
      have HFF := hide hFF
      have HBB := hide hB
      clear hEE hFF hB
      go_upto_region 7 with fail
      go_cut [9] from 32 to 65 (fun v w' => ∃ r : Nat, v = .int .i64 r ∧ 0 < r ∧ r ≤ L ∧ E + r ≤ m ∧ F + r ≤ m ∧ r ≤ dist ∧ Hid (Win w' g H (Ring.rep l e dist (j + r)) E f p) ∧ Hid (Two g H w w'))
      case first =>
        have i0 : (0 : Int) ≤ (E : Int) := by omega
        have i1 : (E : Int) < (m : Int) := by omega
        have i2 : (0 : Int) ≤ (F : Int) := by omega
        have i3 : (F : Int) ≤ (m : Int) := by omega
        have w1 : IntKind.i64.wrap ((E : Int) + (L : Int)) = (E : Int) + (L : Int) := by rw [IntKind.wrap_i64]; omega
        have w2 : IntKind.i64.wrap ((E : Int) + (dist : Int)) = (E : Int) + (dist : Int) := by rw [IntKind.wrap_i64]; omega
        have j1 : ¬ (m = E) := by omega
        have j2 : ¬ (m = F) := by omega
        by_cases q1 : dist < L
        · by_cases q2 : m < E + dist
          · have i6 : (m : Int) < (E : Int) + (dist : Int) := by omega
            have i7 : (E : Int) ≤ (m : Int) := by omega
            obtain ⟨r, hr⟩ : ∃ r, r = min (m - F) (m - E) := ⟨_, rfl⟩
            have HR : Hid (r = Nat.min (m - F) (m - E)) := by show r = min _ _; omega
            have HR1 : Hid (E + r ≤ B.length) := by show _ ≤ _; omega
            have HR2 : Hid (F + r ≤ B.length) := by show _ ≤ _; omega
            have HR3 : Hid (0 < r ∧ r ≤ L ∧ E + r ≤ m ∧ F + r ≤ m ∧ r ≤ dist) := by show _ ∧ _; omega
            clear hr
            go_region_held3 (fun w' => w'.cell? ⟨H, 0, none⟩ = some (.slice (some ⟨g, 0, none⟩) m m) ∧ w'.cell? ⟨H, 1, none⟩ = some (.int .i64 E)) (go_keep)
              ((refine step_copy_win (by rfl) (.tmp 58) (.tmp 64) (by rfl) E F _ _ _ _ r (by rfl) (by rfl) HW.out.drew HR.out HR1.out HR2.out m hlen ?_; intro w5 hW5 hT5 d0 d1))
            go_wp2
            go_meet
            case rel => exact ⟨r, rfl, HR3.out.1, HR3.out.2.1, HR3.out.2.2.1, HR3.out.2.2.2.1, HR3.out.2.2.2.2, by have := hW5.out; rw [hfin.out r HR3.out.2.2.1 HR3.out.2.2.2.2 HR3.out.2.2.2.1] at this; exact this, HT.out.drew.trans hT5.out⟩
          · have i4 : (E : Int) + (dist : Int) ≤ (m : Int) := by omega
            have i6 : ¬ (m : Int) < (E : Int) + (dist : Int) := by omega
            have i7 : (E : Int) ≤ (E : Int) + (dist : Int) := by omega
            obtain ⟨r, hr⟩ : ∃ r, r = min (m - F) (dist) := ⟨_, rfl⟩
            have HR : Hid (r = Nat.min (m - F) (((E : Int) + (dist : Int)).toNat - E)) := by show r = min _ _; omega
            have HR1 : Hid (E + r ≤ B.length) := by show _ ≤ _; omega
            have HR2 : Hid (F + r ≤ B.length) := by show _ ≤ _; omega
            have HR3 : Hid (0 < r ∧ r ≤ L ∧ E + r ≤ m ∧ F + r ≤ m ∧ r ≤ dist) := by show _ ∧ _; omega
            clear hr
            go_region_held3 (fun w' => w'.cell? ⟨H, 0, none⟩ = some (.slice (some ⟨g, 0, none⟩) m m) ∧ w'.cell? ⟨H, 1, none⟩ = some (.int .i64 E)) (go_keep)
              ((refine step_copy_win (by rfl) (.tmp 58) (.tmp 64) (by rfl) E F _ _ _ _ r (by rfl) (by rfl) HW.out.drew HR.out HR1.out HR2.out m hlen ?_; intro w5 hW5 hT5 d0 d1))
            go_wp2
            go_meet
            case rel => exact ⟨r, rfl, HR3.out.1, HR3.out.2.1, HR3.out.2.2.1, HR3.out.2.2.2.1, HR3.out.2.2.2.2, by have := hW5.out; rw [hfin.out r HR3.out.2.2.1 HR3.out.2.2.2.2 HR3.out.2.2.2.1] at this; exact this, HT.out.drew.trans hT5.out⟩
        · by_cases q2 : m < E + L
          · have i6 : (m : Int) < (E : Int) + (L : Int) := by omega
            have i7 : (E : Int) ≤ (m : Int) := by omega
            obtain ⟨r, hr⟩ : ∃ r, r = min (m - F) (m - E) := ⟨_, rfl⟩
            have HR : Hid (r = Nat.min (m - F) (m - E)) := by show r = min _ _; omega
            have HR1 : Hid (E + r ≤ B.length) := by show _ ≤ _; omega
            have HR2 : Hid (F + r ≤ B.length) := by show _ ≤ _; omega
            have HR3 : Hid (0 < r ∧ r ≤ L ∧ E + r ≤ m ∧ F + r ≤ m ∧ r ≤ dist) := by show _ ∧ _; omega
            clear hr
            go_region_held3 (fun w' => w'.cell? ⟨H, 0, none⟩ = some (.slice (some ⟨g, 0, none⟩) m m) ∧ w'.cell? ⟨H, 1, none⟩ = some (.int .i64 E)) (go_keep)
              ((refine step_copy_win (by rfl) (.tmp 58) (.tmp 64) (by rfl) E F _ _ _ _ r (by rfl) (by rfl) HW.out.drew HR.out HR1.out HR2.out m hlen ?_; intro w5 hW5 hT5 d0 d1))
            go_wp2
            go_meet
            case rel => exact ⟨r, rfl, HR3.out.1, HR3.out.2.1, HR3.out.2.2.1, HR3.out.2.2.2.1, HR3.out.2.2.2.2, by have := hW5.out; rw [hfin.out r HR3.out.2.2.1 HR3.out.2.2.2.2 HR3.out.2.2.2.1] at this; exact this, HT.out.drew.trans hT5.out⟩
          · have i4 : (E : Int) + (L : Int) ≤ (m : Int) := by omega
            have i6 : ¬ (m : Int) < (E : Int) + (L : Int) := by omega
            have i7 : (E : Int) ≤ (E : Int) + (L : Int) := by omega
            obtain ⟨r, hr⟩ : ∃ r, r = min (m - F) (L) := ⟨_, rfl⟩
            have HR : Hid (r = Nat.min (m - F) (((E : Int) + (L : Int)).toNat - E)) := by show r = min _ _; omega
            have HR1 : Hid (E + r ≤ B.length) := by show _ ≤ _; omega
            have HR2 : Hid (F + r ≤ B.length) := by show _ ≤ _; omega
            have HR3 : Hid (0 < r ∧ r ≤ L ∧ E + r ≤ m ∧ F + r ≤ m ∧ r ≤ dist) := by show _ ∧ _; omega
            clear hr
            go_region_held3 (fun w' => w'.cell? ⟨H, 0, none⟩ = some (.slice (some ⟨g, 0, none⟩) m m) ∧ w'.cell? ⟨H, 1, none⟩ = some (.int .i64 E)) (go_keep)
              ((refine step_copy_win (by rfl) (.tmp 58) (.tmp 64) (by rfl) E F _ _ _ _ r (by rfl) (by rfl) HW.out.drew HR.out HR1.out HR2.out m hlen ?_; intro w5 hW5 hT5 d0 d1))
            go_wp2
            go_meet
            case rel => exact ⟨r, rfl, HR3.out.1, HR3.out.2.1, HR3.out.2.2.1, HR3.out.2.2.2.1, HR3.out.2.2.2.2, by have := hW5.out; rw [hfin.out r HR3.out.2.2.1 HR3.out.2.2.2.2 HR3.out.2.2.2.1] at this; exact this, HT.out.drew.trans hT5.out⟩
      case rest =>
        obtain ⟨r, rfl, hr0, hrL, hrE, hrF, hrd, HW5, HT5⟩ := hcut
        have hlen5 := Ring.rep_length l e dist (j + r)
        rw [hm] at hlen5
        have d0 := HW5.out.c0
        have d1 := HW5.out.c1
        have fH := HW5.out.fH
        rw [hlen5] at d0
        have N1 : Hid ((e + (j + r)) % m = if E + r = m then 0 else E + r) := by rw [← HEE.out]; exact Ring.mod_next (by rw [HEE.out]; exact hrE)
        have N2 : Hid (Ring.back m dist (if E + r = m then 0 else E + r) = if F + r = m then 0 else F + r) := by rw [← HFF.out] at hrF ⊢; exact Ring.back_next hd hdm hrE hrF
        clear c0 c1 HW HT hfin HBB HEE HFF
        have b1 : ((E : Int) + (r : Int) == (m : Int)) = decide (E + r = m) := by rw [Bool.eq_iff_iff]; simp; omega
        have b2 : ((F : Int) + (r : Int) == (m : Int)) = decide (F + r = m) := by rw [Bool.eq_iff_iff]; simp; omega
        by_cases q1 : E + r = m <;> by_cases q2 : F + r = m
        all_goals simp only [q1, q2, decide_true, decide_false] at b1 b2
        all_goals
          go_wp2
          go_quiet (fail)
          go_wp2
          go_roundw
          case measure => simp [intOf]; omega
          case rel =>
            refine ⟨j + r, by have := HL.out; omega, by rw [show ((k - (j + r) : Nat) : Int) = (L : Int) - (r : Int) by have := HL.out; omega], ?_, ?_, ?_⟩
            · rw [N1.out, N2.out]; simp [q2]
            · rw [N1.out]
              first
                | (rw [if_pos q1]; exact ((HW5.out.sete _).drewN _).sete _)
                | (rw [if_neg q1]; exact (HW5.out.sete _).drewN _)
            · first
                | exact (((HT5.out.setH _ _).drewN _).setH _ _)
                | exact ((HT5.out.setH _ _).drewN _)
    · obtain rfl : j = k := by omega
      have hlen := Ring.rep_length l e dist j
      rw [hm] at hlen
      have c0 := HW.out.c0
      have c2 := HW.out.c2
      have c3 := HW.out.c3
      have fH := HW.out.fH
      rw [hlen] at c0
      have w1 : IntKind.i64.wrap ((f : Int) + (j : Int)) = (f : Int) + (j : Int) := by rw [IntKind.wrap_i64]; omega
      by_cases q1 : m < f + j
      · have i1 : (m : Int) < (f : Int) + (j : Int) := by omega
        go_wp2
        go_region
        go_wp2
        go_ret
        refine ⟨rfl, ?_, ?_⟩
        · rw [show ((min (f + j) m : Nat) : Int) = (m : Int) by omega, show ((p + j : Nat) : Int) = (p : Int) + (j : Int) by omega]
          exact ((HW.out.setp _).setf _).drew
        · exact ((HT.out.setH _ _).setH _ _).drew
      · have i1 : ¬ (m : Int) < (f : Int) + (j : Int) := by omega
        go_wp2
        go_region
        go_wp2
        go_ret
        refine ⟨rfl, ?_, ?_⟩
        · rw [show ((min (f + j) m : Nat) : Int) = (f : Int) + (j : Int) by omega, show ((p + j : Nat) : Int) = (p : Int) + (j : Int) by omega]
          exact ((HW.out.setp _).setf _).drew
        · exact ((HT.out.setH _ _).setH _ _).drew

set_option maxHeartbeats 1000000 in
/-- 'ZZWindowRepeat'. -/
theorem zzrepeat_any (w : World) (g : Nat) (l : List Int) (e f p dist n : Nat) (hB : w.heap[g]? = some (.cells (cells l) 5 (0, 0))) (hl : l.length ≤ 524288) (he : e < l.length) (hf : f ≤ l.length) (hp : p ≤ l.length) (hd : 0 < dist) (hdm : dist ≤ l.length) (hn : n ≤ maxLen) :
    Calls Try.prog 12 #[.slice (some ⟨g, 0, none⟩) l.length l.length, .int .i64 e, .int .i64 f, .int .i64 p, .int .i64 dist, .int .i64 n] w fun r w' =>
      r = .returned (.tuple #[.int .i64 (min n (l.length - p) : Nat), .int .i64 ((e + min n (l.length - p)) % l.length : Nat), .int .i64 (min (f + min n (l.length - p)) l.length : Nat), .int .i64 (p + min n (l.length - p) : Nat)]) ∧
      w'.heap[g]? = some (.cells (cells (Ring.rep l e dist (min n (l.length - p)))) 5 (0, 0)) ∧ w.grownBy w' (some g) := by
  have hg : g < w.heap.size := by
    by_cases h : g < w.heap.size
    · exact h
    · rw [Array.getElem?_eq_none (by omega)] at hB; cases hB
  have hW0 : Win (w.alloc (.cells #[.slice (some ⟨g, 0, none⟩) l.length l.length, .int .i64 e, .int .i64 f, .int .i64 p] 42)) g w.heap.size l e f p :=
    ⟨by rw [heap_alloc_old _ _ hg]; exact hB, heap_alloc_new _ _, by omega⟩
  have hrep := repeat_any _ g w.heap.size l e f p dist n hW0 hl he hf hp hd hdm hn
  have HR := hide hrep
  clear hrep hW0 hB
  generalize min n (l.length - p) = k at *
  generalize ((e + k) % l.length : Nat) = e1 at *
  generalize (min (f + k) l.length : Nat) = f1 at *
  generalize (p + k : Nat) = p1 at *
  go_enter Try.func12, Try.ntmps12
  go_wp2_with fail
  refine HR.out.mono ?_
  rintro r w1 ⟨rfl, hW1, hT⟩
  have c1 := hW1.c1; have c2 := hW1.c2; have c3 := hW1.c3
  have HW1 := hide hW1
  have HT := hide hT
  clear hW1 hT HR
  go_wp2
  go_quiet (fail)
  go_wp2
  exact bodyPost_ret (v := .tuple #[.int .i64 k, .int .i64 e1, .int .i64 f1, .int .i64 p1]) (by simp [results, Try.results12]) rfl ⟨rfl, HW1.out.buf, grown_of_two (HT.out.drewN _)⟩
end Go.Proofs.Qxb6602659a.Win
