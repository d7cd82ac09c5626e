import Derived.Test.Qxb6602779aParts
namespace Go.Proofs.Qxb6602779a.Parts
open Go.RowKit

/-- Which of the five ways the event's type and code say; the status, and whether it sets one. -/
def Way (typ code : ByteArray) (st : ByteArray) (ok : Bool) : Prop :=
  ((typ.toList == [80, 82, 79, 86, 73, 68, 69, 82, 95, 82, 69, 65, 68, 89]) = true ∧ st = ⟨#[82, 69, 65, 68, 89]⟩ ∧ ok = true) ∨
  ((typ.toList == [80, 82, 79, 86, 73, 68, 69, 82, 95, 82, 69, 65, 68, 89]) = false ∧ (typ.toList == [80, 82, 79, 86, 73, 68, 69, 82, 95, 83, 84, 65, 76, 69]) = true ∧ st = ⟨#[83, 84, 65, 76, 69]⟩ ∧ ok = true) ∨
  ((typ.toList == [80, 82, 79, 86, 73, 68, 69, 82, 95, 82, 69, 65, 68, 89]) = false ∧ (typ.toList == [80, 82, 79, 86, 73, 68, 69, 82, 95, 83, 84, 65, 76, 69]) = false ∧ (typ.toList == [80, 82, 79, 86, 73, 68, 69, 82, 95, 69, 82, 82, 79, 82]) = true ∧
    (code.toList == [80, 82, 79, 86, 73, 68, 69, 82, 95, 70, 65, 84, 65, 76]) = true ∧ st = ⟨#[70, 65, 84, 65, 76]⟩ ∧ ok = true) ∨
  ((typ.toList == [80, 82, 79, 86, 73, 68, 69, 82, 95, 82, 69, 65, 68, 89]) = false ∧ (typ.toList == [80, 82, 79, 86, 73, 68, 69, 82, 95, 83, 84, 65, 76, 69]) = false ∧ (typ.toList == [80, 82, 79, 86, 73, 68, 69, 82, 95, 69, 82, 82, 79, 82]) = true ∧
    (code.toList == [80, 82, 79, 86, 73, 68, 69, 82, 95, 70, 65, 84, 65, 76]) = false ∧ st = ⟨#[69, 82, 82, 79, 82]⟩ ∧ ok = true) ∨
  ((typ.toList == [80, 82, 79, 86, 73, 68, 69, 82, 95, 82, 69, 65, 68, 89]) = false ∧ (typ.toList == [80, 82, 79, 86, 73, 68, 69, 82, 95, 83, 84, 65, 76, 69]) = false ∧ (typ.toList == [80, 82, 79, 86, 73, 68, 69, 82, 95, 69, 82, 82, 79, 82]) = false ∧
    st = ⟨#[]⟩ ∧ ok = false)
theorem way_total (typ code : ByteArray) : ∃ st ok, Way typ code st ok := by
  cases h1 : (typ.toList == [80, 82, 79, 86, 73, 68, 69, 82, 95, 82, 69, 65, 68, 89])
  · cases h2 : (typ.toList == [80, 82, 79, 86, 73, 68, 69, 82, 95, 83, 84, 65, 76, 69])
    · cases h3 : (typ.toList == [80, 82, 79, 86, 73, 68, 69, 82, 95, 69, 82, 82, 79, 82])
      · exact ⟨_, _, .inr (.inr (.inr (.inr ⟨h1, h2, h3, rfl, rfl⟩)))⟩
      · cases h4 : (code.toList == [80, 82, 79, 86, 73, 68, 69, 82, 95, 70, 65, 84, 65, 76])
        · exact ⟨_, _, .inr (.inr (.inr (.inl ⟨h1, h2, h3, h4, rfl, rfl⟩)))⟩
        · exact ⟨_, _, .inr (.inr (.inl ⟨h1, h2, h3, h4, rfl, rfl⟩))⟩
    · exact ⟨_, _, .inr (.inl ⟨h1, h2, rfl, rfl⟩)⟩
  · exact ⟨_, _, .inl ⟨h1, rfl, rfl⟩⟩

set_option maxHeartbeats 1000000 in
theorem status_any (w : World) (typ code msg : ByteArray) (fl : Value) (st : ByteArray) (ok : Bool) (hW : Way typ code st ok) :
    Calls Try.prog 9 #[.agg #[.string typ, .string code, .string msg, fl]] w fun r w' => r = .returned (.tuple #[.string st, .bool ok]) ∧ Below w.heap.size w w' := by
  rcases hW with ⟨h1, rfl, rfl⟩ | ⟨h1, h2, rfl, rfl⟩ | ⟨h1, h2, h3, h4, rfl, rfl⟩ | ⟨h1, h2, h3, h4, rfl, rfl⟩ | ⟨h1, h2, h3, rfl, rfl⟩
  all_goals
    go_enter Try.func9, Try.ntmps9
    go_wp2
    go_ret2
    exact ⟨rfl, (Below.refl _ _).alloc (Nat.le_refl _) _⟩

set_option maxHeartbeats 2000000 in
theorem walk4 (w : World) (typ code msg : ByteArray) (a : Option Addr) (len cap : Nat) (hs : Src w a len cap) (hx : typ.size ≤ maxLen) (hy : code.size ≤ maxLen) (hz : msg.size ≤ maxLen) :
    Calls Try.prog 4 #[.string typ, .string code, .string msg, .slice a len cap] w fun r w' => r = .returned (.bool true) ∧ Below w.heap.size w w' := by
  have hb := bytes10 w typ code msg a len cap hs hx hy hz
  have hf := flag_any w a len cap hs
  have HB := hide hb
  have HF := hide hf
  clear hb hf hs
  unfold maxLen at hx hy hz
  generalize hx' : typ.size = nx at *
  generalize hy' : code.size = ny at *
  generalize hz' : msg.size = nz at *
  obtain ⟨st, ok, hW⟩ := way_total typ code
  have HW := hide hW
  clear hW
  go_enter Try.func4, Try.ntmps4
  go_wp2_with fail
  refine HB.out.mono ?_
  rintro r w' ⟨b, rfl, hw⟩
  subst w'
  clear HB
  cases b
  · go_wp2_with fail
    go_ret
    exact ⟨rfl, Below.refl _ _⟩
  · go_wp2_with (go_at_call 8; refine HF.out.mono ?_; rintro r w' ⟨v, rfl, hv, _, hw⟩; subst w')
    all_goals first
      | (go_ret; exact ⟨rfl, Below.refl _ _⟩)
      | skip
    refine (status_any _ typ code msg _ st ok HW.out).mono ?_
    rintro r w1 ⟨rfl, hb1⟩
    have HB1 := hide hb1
    clear hb1
    rcases HW.out with ⟨h1, rfl, rfl⟩ | ⟨h1, h2, rfl, rfl⟩ | ⟨h1, h2, h3, h4, rfl, rfl⟩ | ⟨h1, h2, h3, h4, rfl, rfl⟩ | ⟨h1, h2, h3, rfl, rfl⟩
    all_goals
      clear HW HF
      go_wp2
      go_ret
      exact ⟨rfl, ((Below.refl _ _).alloc (Nat.le_refl _) _).trans (HB1.out.mono (by simp))⟩
end Go.Proofs.Qxb6602779a.Parts
