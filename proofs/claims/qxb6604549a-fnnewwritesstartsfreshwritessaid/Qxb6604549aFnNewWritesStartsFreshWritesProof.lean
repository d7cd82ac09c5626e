/-
  The proof of 'Rows.FnNewWritesStartsFreshWritesSaid', after the guide's template.
-/
import Derived.Test.Qxb6604549aRows
import Derived.WalkKit
import Derived.ProofKit
import Derived.OpenShut
import Derived.ShutString
import Derived.ChangeOld
import Derived.Below
import Derived.Deep.Matrix
import Derived.Test.Qxb6604549aMain
import Derived.Test.Qxb6604549aReads2
namespace Go.Proofs.Qxb6604549a.fnNewWritesStartsFreshWrites
open Go.ChangeShapes Go.WideShapes Go.ChangeAt Go.RowKit
open Go.ChangeMaps (open_string shut_string)
set_option linter.unusedVariables false

theorem own : ownKnob Try.prog.godebug = none := by kernel_rfl
theorem laidOut : laidOutB Try.prog = true := by kernel_rfl

/-- The array by value: sixteen bytes. -/
theorem open_id {H : Type} {enc : TypeId × Value → H} {W : World} {base : Nat} {v : Value} {d : DataW H} {p : List MemPlace} (hv : Value.okWide Try.prog W .any base 22 v) (h : DataW.Trod enc Try.prog W 0 (fun _ => true) true 22 v d p) :
    ∃ idl : List Int, idl.length = 16 ∧ v = .agg (Parts.cells idl) := by
  simp only [Value.okWide, Try.underlying22] at hv
  obtain ⟨cs, rfl, hsz, _⟩ := hv
  obtain ⟨fuel, hf⟩ := h
  obtain ⟨xs, m, rfl, hx, hl, hxl, hel⟩ := DataW.trod_array Try.underlying22 hf
  have c22 : Try.prog.cellsOf 22 = 16 := by kernel_rfl
  have c5 : Try.prog.cellsOf 5 = 1 := by kernel_rfl
  rw [c22] at hl
  have hl' : cs.toList.length = 16 := by simpa [Value.cells] using hl
  have hcell : ∀ i, i < 16 → ∃ n, cs.toList[i]? = some (.int .u8 n) := by
    intro i hi
    have h1 := hel i hi
    rw [c5] at h1
    have hx2 : xs[i]? = some xs[i] := List.getElem?_eq_getElem (by omega)
    rw [hx2] at h1
    obtain ⟨n, e, _⟩ := DataW.trod_int Try.underlying5 h1
    refine ⟨n, ?_⟩
    have hlen : i < cs.toList.length := by omega
    have e2 : (((Value.agg cs).cells.toList.drop (i * 1)).take 1) = [cs.toList[i]] := by
      show ((cs.toList.drop (i * 1)).take 1) = _
      rw [Nat.mul_one, List.drop_eq_getElem_cons hlen]
      rfl
    rw [e2] at e
    rw [List.getElem?_eq_getElem hlen]
    simpa using e
  refine ⟨cs.toList.map (fun v => match v with | .int _ n => n | _ => 0), by simpa using hl', ?_⟩
  congr 1
  apply Array.ext'
  show cs.toList = List.map (Value.int .u8) (List.map _ cs.toList)
  apply List.ext_getElem?
  intro i
  by_cases hi : i < 16
  · obtain ⟨n, hn⟩ := hcell i hi
    simp [hn]
  · rw [List.getElem?_eq_none (by omega), List.getElem?_eq_none (by simp at hl' ⊢; omega)]

theorem bs_of {W : World} (A : Option Addr) (L C : Nat) (Z : List Int) (g2 : L ≤ C) (g3 : C ≤ maxLen) (g4 : Z.length = C) (g5 : A = none → C = 0) (g7 : ∀ a', A = some a' → ∀ c, c < C → W.cell? (a'.add c) = some (.int .u8 (Z.getD c 0))) :
    Parts.Bs W (.slice A L C) (A.map fun _ => Z.take L) ∧ Parts.blen (A.map fun _ => Z.take L) ≤ maxLen := by
  cases A with
  | none =>
    have hc := g5 rfl
    have hl : L = 0 := by omega
    subst hc; subst hl
    exact ⟨rfl, Nat.zero_le _⟩
  | some ad =>
    have hlen : (Z.take L).length = L := by simp; omega
    refine ⟨⟨ad, C, by rw [hlen], fun i hi => ?_⟩, ?_⟩
    · rw [hlen] at hi
      rw [g7 ad rfl i (by omega)]
      have : (Z.take L).getD i 0 = Z.getD i 0 := by simp [List.getD, hi]
      rw [this]
    · show (Z.take L).length ≤ maxLen
      omega

set_option maxRecDepth 100000 in
theorem lifted_of (hR : Parts.Reads20) (os : Os) (started : os.Started) (H : Type) (enc : TypeId × Value → H) :
    ReturnsInHanded {} Try.checked os 3 .any (Rows.fnNewWritesStartsFreshWritesSpec.pre6 enc Try.prog Try.f3 Rows.fnNewWritesStartsFreshWritesRow.domain false) (Rows.fnNewWritesStartsFreshWritesSpec.post enc Try.prog Try.f3 false true false false) := by
  refine returnsInHanded_of_change (C := Try.checked) own started (by kernel_rfl) Try.func3
    (ChangeSpec.witness6 (enc := enc) (C := Try.checked) false ⟨#[], #[.agg #[.int .u8 0, .int .u8 0, .int .u8 0, .int .u8 0, .int .u8 0, .int .u8 0, .int .u8 0, .int .u8 0, .int .u8 0, .int .u8 0, .int .u8 0, .int .u8 0, .int .u8 0, .int .u8 0, .int .u8 0, .int .u8 0], .int .i64 0, .int .u32 0, .slice none 0 0], []⟩ 8 (by kernel_rfl) (by kernel_rfl) (by kernel_rfl) (by kernel_rfl)) ?_
  intro W base args ds gs before hval0 hW hcnd _
  have hval : ∀ (j : Nat) t v, Try.f3.params[j]? = some t → args[j]? = some v → Value.okWide Try.prog W .any base t v := hval0
  have hW' := hW
  obtain ⟨p, q, hA0, hV, rfl, hfz, hnd⟩ := hW
  have hA : DataW.TrodAll enc Try.prog W 0 (fun _ => true) true Try.f3.params.toList args.toList ds p := hA0
  rw [Try.params3] at hA hval
  obtain ⟨v0, vs0, d0, ds0, p0, q0, hargs, rfl, rfl, h0, r0⟩ := trodAll_cons hA
  obtain ⟨v1, vs1, d1, ds1, p1, q1, rfl, rfl, rfl, h1, r1⟩ := trodAll_cons r0
  obtain ⟨v2, vs2, d2, ds2, p2, q2, rfl, rfl, rfl, h2, r2⟩ := trodAll_cons r1
  obtain ⟨v3, vs3, d3, ds3, p3, q3, rfl, rfl, rfl, h3, r3⟩ := trodAll_cons r2
  obtain ⟨rfl, rfl, rfl⟩ := trodAll_nil r3
  obtain rfl : args = #[v0, v1, v2, v3] := by cases args; simp_all
  obtain ⟨rfl, rfl⟩ := trodVars_none hV
  have k0 := h0
  have lt0 : ∀ x ∈ p0, x.block < W.heap.size := by obtain ⟨m, hm⟩ := k0; exact DataW.trod_lt m _ _ _ hm
  obtain ⟨idl, hid, rfl⟩ := open_id (hval 0 22 v0 rfl rfl) h0
  obtain ⟨a1, rfl, rfl, rfl, w1⟩ := open_int Try.underlying3 (hval 1 3 v1 rfl rfl) h1
  obtain ⟨a2, rfl, rfl, rfl, w2⟩ := open_int Try.underlying23 (hval 2 23 v2 rfl rfl) h2
  obtain ⟨a3, len3, cap3, rfl⟩ := okWide_slice Try.underlying24 (hval 3 24 v3 rfl rfl)
  have k3 := h3
  have lt3 : ∀ x ∈ p3, x.block < W.heap.size := by obtain ⟨m, hm⟩ := k3; exact DataW.trod_lt m _ _ _ hm
  obtain ⟨X, w3⟩ : ∃ X, Parts.Src W a3 len3 cap3 X := by
    obtain ⟨fuel, hf⟩ := h3
    rcases Deep.open_int_rows Try.underlying24 Try.underlying33 Try.underlying5 (by kernel_rfl) (by kernel_rfl) hf with ⟨hcs, _⟩ | ⟨x, l, c, A, L, C, Z, hcs, _, hl, hm, _, hrows⟩
    · simp [Value.cells] at hcs
      obtain ⟨rfl, rfl, rfl⟩ := hcs
      exact ⟨fun _ => none, by unfold maxLen; omega, .inl ⟨rfl, rfl, rfl⟩⟩
    · simp [Value.cells] at hcs
      obtain ⟨rfl, rfl, rfl⟩ := hcs
      refine ⟨fun j => (A j).map fun _ => (Z j).take (L j), by omega, .inr ⟨_, rfl, fun j hj => ?_⟩⟩
      obtain ⟨g1, g2, g3, g4, _, g5, g6⟩ := hrows j (by omega)
      exact ⟨_, g1, bs_of (A j) (L j) (C j) (Z j) g2 g3 g4 g5 (fun a' ha => (g6 a' ha).2)⟩
  clear hA0 hval0
  refine (Parts.all3 hR W idl hid a1 a2 a3 len3 cap3 X w3).mono fun e W' ⟨he, bel⟩ => ?_
  subst he
  exact ⟨_, rfl, _, _, _, [], _, [], hW', trodAll_mk1 (shut_bool Try.underlying4 _), (trodAll_cons_mk (Below.trod laidOut (by kernel_rfl) (of_decide_eq_true (by kernel_rfl)) k0 bel lt0) (trodAll_cons_mk (shut_int Try.underlying3 w1) (trodAll_cons_mk (shut_int Try.underlying23 w2) (trodAll_cons_mk (Below.trod laidOut (by kernel_rfl) (of_decide_eq_true (by kernel_rfl)) k3 bel lt3) trodAll_mk0)))), rfl, bel.frame _, fun h => by cases h⟩

set_option maxRecDepth 100000 in
theorem over : Rows.fnNewWritesStartsFreshWritesRow.holds Try.pinned (OpenSpec.ofChange Rows.fnNewWritesStartsFreshWritesSpec) :=
  OpenClaim.holds_of_wide 3 Try.f3 rfl rfl rfl rfl rfl rfl rfl ⟨rfl, rfl, rfl, rfl, rfl⟩ rfl rfl rfl rfl rfl (by kernel_rfl) Try.func3
    (by kernel_rfl) (of_decide_eq_true (by kernel_rfl))
    (by unfold Func.isWrapper; first | (rw [if_pos (by decide +kernel)]; kernel_rfl) | (rw [if_neg (by decide +kernel)]; exact ⟨rfl, rfl⟩))
    (fun os started H enc _ => lifted_of Parts.reads os started H enc)

theorem proved : Rows.FnNewWritesStartsFreshWritesSaid := over

end Go.Proofs.Qxb6604549a.fnNewWritesStartsFreshWrites
