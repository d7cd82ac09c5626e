import Derived.Test.Qxb6602779aProg
import Derived.WalkKit
import Derived.WalkSpells
import Derived.Deep.QuietTactic
import Derived.BigQuiet
namespace Go.Proofs.Qxb6602779a.Parts
open Go.RowKit

theorem hide {p : Prop} (h : p) : Hid p := h
/-- What is known of a slice of strings that came in. -/
def Src (w : World) (a : Option Addr) (len cap : Nat) : Prop :=
  len ≤ maxLen ∧ ((a = none ∧ len = 0 ∧ cap = 0) ∨ ∃ x, a = some x ∧ ∀ j, j < len → ∃ s : ByteArray, w.cell? (x.add j) = some (.string s) ∧ s.size ≤ maxLen)
theorem Src.at {w : World} {a : Option Addr} {len cap : Nat} (h : Src w a len cap) (k : Nat) (hk : k < len) :
    ∃ (b off : Nat) (s : ByteArray), a = some ⟨b, off, none⟩ ∧ w.cell? ⟨b, off + k, none⟩ = some (.string s) ∧ s.size ≤ 9223372036854775807 := by
  obtain ⟨_, ⟨_, rfl, _⟩ | ⟨⟨b, off, spot⟩, rfl, h⟩⟩ := h
  · omega
  · obtain ⟨s, hs, hl⟩ := h k hk
    have hspot : spot = none := by
      obtain ⟨s0, h0, _⟩ := h 0 (by omega)
      simpa [Addr.add] using World.cell?_spot h0
    subst hspot
    refine ⟨b, off, s, rfl, ?_, by unfold maxLen at hl; omega⟩
    rw [show (⟨b, off, none⟩ : Addr).add k = ⟨b, off + k, none⟩ by unfold Addr.add; split <;> simp_all] at hs
    exact hs

/-- What the count of flag bytes answers. -/
def FlagOut (w : World) (len : Nat) (r : Ending) (w' : World) : Prop := ∃ v : Nat, r = .returned (.int .i64 v) ∧ v ≤ 1048577 ∧ (65536 < len → v = 1048577) ∧ w' = w
/-- Some bool, and nothing has turned. -/
def BoolOut (w : World) (r : Ending) (w' : World) : Prop := ∃ b : Bool, r = .returned (.bool b) ∧ w' = w

set_option maxHeartbeats 1000000 in
theorem flag_any (w : World) (a : Option Addr) (len cap : Nat) (hs : Src w a len cap) :
    Calls Try.prog 8 #[.slice a len cap] w (FlagOut w len) := by
  have hl := hs.1
  unfold maxLen at hl
  have HS := hide hs
  clear hs
  by_cases hbig : 65536 < len
  · go_enter Try.func8, Try.ntmps8
    go_wp2
    go_ret
    exact ⟨1048577, rfl, by omega, fun _ => rfl, rfl⟩
  · go_enter Try.func8, Try.ntmps8
    go_wp2
    go_loop [3, 4] (fun t i => ∃ k t0 : Nat, k ≤ len ∧ i = .int .i64 k ∧ t = .int .i64 t0 ∧ t0 ≤ 1048576) (fun _ i => len - (intOf i).toNat)
    case atStart => exact ⟨0, 0, by omega, rfl, rfl, by omega⟩
    case round =>
      obtain ⟨k, t0, hk, rfl, rfl, ht⟩ := hrel
      by_cases hlt : k < len
      · obtain ⟨b, off, s, rfl, hc, hsz⟩ := HS.out.at k hlt
        clear HS
        have i0 : (0 : Int) ≤ (k : Int) := by omega
        have i1 : (k : Int) < (len : Int) := by omega
        generalize hz : s.size = z at *
        go_wp2
        case roundEnd =>
          go_round
          case rel => exact ⟨k + 1, t0 + (16 + z), by omega, by go_num, by go_num, by omega⟩
          case measure => simp [intOf]; omega
        all_goals
          go_ret
          exact ⟨1048577, rfl, by omega, fun _ => rfl, rfl⟩
      · go_wp2
        go_ret
        exact ⟨t0, rfl, by omega, by omega, rfl⟩

set_option maxHeartbeats 1000000 in
theorem bytes10 (w : World) (x y z : ByteArray) (a : Option Addr) (len cap : Nat) (hs : Src w a len cap) (hx : x.size ≤ maxLen) (hy : y.size ≤ maxLen) (hz : z.size ≤ maxLen) :
    Calls Try.prog 10 #[.string x, .string y, .string z, .slice a len cap] w (BoolOut w) := by
  have hl := hs.1
  unfold maxLen at hl hx hy hz
  have HS := hide hs
  clear hs
  generalize hx' : x.size = nx at *
  generalize hy' : y.size = ny at *
  generalize hz' : z.size = nz at *
  go_enter Try.func10, Try.ntmps10
  go_wp2
  all_goals first
    | (go_ret; exact ⟨false, rfl, rfl⟩)
    | skip
  go_loop [9, 10] (fun t i => ∃ k t0 : Nat, k ≤ len ∧ i = .int .i64 k ∧ t = .int .i64 t0 ∧ t0 ≤ 1048576) (fun _ i => len - (intOf i).toNat)
  case atStart => exact ⟨0, nx + ny + nz + len, by omega, rfl, by go_num, by omega⟩
  case round =>
    obtain ⟨k, t0, hk, rfl, rfl, ht⟩ := hrel
    by_cases hlt : k < len
    · obtain ⟨b, off, s, rfl, hc, hsz⟩ := HS.out.at k hlt
      clear HS
      have i0 : (0 : Int) ≤ (k : Int) := by omega
      have i1 : (k : Int) < (len : Int) := by omega
      generalize hq : s.size = q at *
      go_wp2
      case roundEnd =>
        go_round
        case rel => exact ⟨k + 1, t0 + q, by omega, by go_num, by go_num, by omega⟩
        case measure => simp [intOf]; omega
      all_goals
        go_ret
        exact ⟨false, rfl, rfl⟩
    · go_wp2
      go_ret
      exact ⟨true, rfl, rfl⟩
end Go.Proofs.Qxb6602779a.Parts
