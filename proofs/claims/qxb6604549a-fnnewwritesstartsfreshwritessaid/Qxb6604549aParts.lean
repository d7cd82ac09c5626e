import Derived.Test.Qxb6604549aProg
import Derived.WalkKit
import Derived.WalkSpells
import Derived.Deep.QuietTactic
import Derived.BigQuiet
import Derived.Laws.CopyOwn
namespace Go.Proofs.Qxb6604549a.Parts
open Go.RowKit

theorem hide {p : Prop} (h : p) : Hid p := h
theorem lt_of_some {w : World} {g : Nat} {o : Obj} (h : w.heap[g]? = some o) : g < w.heap.size := by
  by_cases hg : g < w.heap.size
  · exact hg
  · rw [Array.getElem?_eq_none (by omega)] at h; cases h
/-- The bytes of one value; nil has none. -/
def blen : Option (List Int) → Nat
  | none => 0
  | some l => l.length
/-- A slice of bytes: nil, or the bytes lie where it leads. -/
def Bs (w : World) (v : Value) : Option (List Int) → Prop
  | none => v = .slice none 0 0
  | some l => ∃ a cap, v = .slice (some a) l.length cap ∧ ∀ j, j < l.length → w.cell? (a.add j) = some (.int .u8 (l.getD j 0))
theorem Bs.form {w : World} {v : Value} {x : Option (List Int)} (h : Bs w v x) : ∃ a cap, v = .slice a (blen x) cap ∧ (a.isNone = x.isNone) := by
  cases x with
  | none => exact ⟨none, 0, h, rfl⟩
  | some l => obtain ⟨a, cap, h1, _⟩ := h; exact ⟨some a, cap, h1, rfl⟩
/-- What is known of the slice of byte slices. -/
def Src (w : World) (a : Option Addr) (n cap : Nat) (X : Nat → Option (List Int)) : Prop :=
  n ≤ maxLen ∧ ((a = none ∧ n = 0 ∧ cap = 0) ∨ ∃ x, a = some x ∧ ∀ j, j < n → ∃ v, w.cell? (x.add j) = some v ∧ Bs w v (X j) ∧ blen (X j) ≤ maxLen)
theorem Src.at {w : World} {a : Option Addr} {n cap : Nat} {X : Nat → Option (List Int)} (h : Src w a n cap X) (k : Nat) (hk : k < n) :
    ∃ (b off : Nat) (v : Value), a = some ⟨b, off, none⟩ ∧ w.cell? ⟨b, off + k, none⟩ = some v ∧ Bs w v (X k) ∧ blen (X k) ≤ 9223372036854775807 := by
  obtain ⟨_, ⟨_, rfl, _⟩ | ⟨⟨b, off, spot⟩, rfl, h⟩⟩ := h
  · omega
  · obtain ⟨s, hs, hl, hm⟩ := h k hk
    have hspot : spot = none := by
      obtain ⟨s0, h0, _⟩ := h 0 (by omega)
      simpa [Addr.add] using World.cell?_spot h0
    subst hspot
    refine ⟨b, off, s, rfl, ?_, hl, by unfold maxLen at hm; omega⟩
    rw [show (⟨b, off, none⟩ : Addr).add k = ⟨b, off + k, none⟩ by unfold Addr.add; split <;> simp_all] at hs
    exact hs

/-- What the count of all bytes says. -/
def BytesOut (w : World) (n : Nat) (X : Nat → Option (List Int)) (r : Ending) (w' : World) : Prop :=
  ∃ b : Bool, r = .returned (.bool b) ∧ (b = true → ∀ j, j < n → blen (X j) ≤ 1048576) ∧ Below w.heap.size w w'

set_option maxHeartbeats 1000000 in
theorem bytes6 (w : World) (ids : Array Value) (x y : Int) (a : Option Addr) (n cap : Nat) (X : Nat → Option (List Int)) (hs : Src w a n cap X) :
    Calls Try.prog 6 #[.agg ids, .int .i64 x, .int .u32 y, .slice a n cap] w (BytesOut w n X) := by
  have hl := hs.1
  unfold maxLen at hl
  have HS := hide hs
  clear hs
  go_enter Try.func6, Try.ntmps6
  go_wp2
  all_goals first
    | (go_ret; exact ⟨false, rfl, (fun h => by cases h), (Below.refl _ _).alloc (Nat.le_refl _) _⟩)
    | skip
  go_loop [9, 10] (fun t i => ∃ k t0 : Nat, k ≤ n ∧ i = .int .i64 k ∧ t = .int .i64 t0 ∧ t0 ≤ 1048576 ∧ Hid (∀ j, j < k → blen (X j) ≤ 1048576)) (fun _ i => n - (intOf i).toNat)
  case atStart => exact ⟨0, n, by omega, rfl, by go_num, by omega, fun j hj => absurd hj (by omega)⟩
  case round =>
    obtain ⟨k, t0, hk, rfl, rfl, ht, HX⟩ := hrel
    by_cases hlt : k < n
    · obtain ⟨b, off, v, rfl, hc, hv, hsz⟩ := HS.out.at k hlt
      obtain ⟨a2, cap2, rfl, _⟩ := hv.form
      have hlb := block_lt_of_cell hc
      clear HS hv
      have i0 : (0 : Int) ≤ (k : Int) := by omega
      have i1 : (k : Int) < (n : Int) := by omega
      generalize hq : blen (X k) = q at *
      have HQ := hide hq
      clear hq
      go_wp2
      case roundEnd =>
        go_round
        case rel =>
          refine ⟨k + 1, t0 + q, by omega, by go_num, by go_num, by omega, fun j hj => ?_⟩
          by_cases e : j = k
          · subst e; rw [HQ.out]; omega
          · exact HX.out j (by omega)
        case measure => simp [intOf]; omega
      all_goals
        go_ret
        exact ⟨false, rfl, (fun h => by cases h), (Below.refl _ _).alloc (Nat.le_refl _) _⟩
    · obtain rfl : k = n := by omega
      go_wp2
      go_ret
      exact ⟨true, rfl, (fun _ => HX.out), (Below.refl _ _).alloc (Nat.le_refl _) _⟩

/-- The bytes, counted: a number, and nothing has turned. -/
def CountOut (w : World) (r : Ending) (w' : World) : Prop := ∃ v : Nat, r = .returned (.int .i64 v) ∧ v ≤ 4194304 ∧ w' = w

set_option maxHeartbeats 1000000 in
theorem count7 (w : World) (a : Option Addr) (n cap : Nat) (X : Nat → Option (List Int)) (hs : Src w a n cap X) (hn : n ≤ 4096) (hx : ∀ j, j < n → blen (X j) ≤ 1048576) :
    Calls Try.prog 7 #[.slice a n cap] w (CountOut w) := by
  have HS := hide hs
  have HX := hide hx
  clear hs hx
  go_enter Try.func7, Try.ntmps7
  go_wp2
  go_loop [3, 4] (fun t i => ∃ k t0 : Nat, k ≤ n ∧ i = .int .i64 k ∧ t = .int .i64 t0 ∧ t0 ≤ 1048576) (fun _ i => n - (intOf i).toNat)
  case atStart => exact ⟨0, 24 * n, by omega, rfl, by go_num, by omega⟩
  case round =>
    obtain ⟨k, t0, hk, rfl, rfl, ht⟩ := hrel
    by_cases hlt : k < n
    · obtain ⟨b, off, v, rfl, hc, hv, hsz⟩ := HS.out.at k hlt
      obtain ⟨a2, cap2, rfl, _⟩ := hv.form
      have hq := HX.out k hlt
      clear HS hv HX
      have i0 : (0 : Int) ≤ (k : Int) := by omega
      have i1 : (k : Int) < (n : Int) := by omega
      generalize blen (X k) = q at *
      go_wp2
      case roundEnd =>
        go_round
        case rel => exact ⟨k + 1, t0 + q, by omega, by go_num, by go_num, by omega⟩
        case measure => simp [intOf]; omega
      all_goals
        go_ret
        exact ⟨t0 + q, by go_num, by omega, rfl⟩
    · go_wp2
      go_ret
      exact ⟨t0, rfl, by omega, rfl⟩
end Go.Proofs.Qxb6604549a.Parts
