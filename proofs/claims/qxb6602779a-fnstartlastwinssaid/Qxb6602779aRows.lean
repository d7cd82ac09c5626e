/-
  No cell of these rows narrows 'for every input' (looked for: loops, veiled, ifaces, maps, wideKeys, modest, calm, conditions, laid).
  DERIVED. THE GIVEN ROWS OF THIS SEAT. 4 by the template 'for every input the law returns true; each argument reads behind the call as it read before'; 0 by the template 'total and deterministic' (their statements: Qxb6602779aTotals.lean).
  GIVEN WITH THE SEED: the statements are not yours to turn. If you find one false, say at which input.
  Laid BY PROGRAM, IN A SANDBOX (cutbox-rows.mjs): the forced cells as the released guide's own fill.sh prints them over the translation 612413bd5ba56b14… (all of the seat's roots in one cut). By AI agents, Wed Nov 11 2026. No macro, syntax, notation, axiom, sorry.
-/
import Derived.Test.Qxb6602779aChecked
import GoSem.Claim
import GoSem.ClaimJoined
import GoSem.ClaimMapViews
import Derived.JoinedTies
import Derived.KernelRfl
namespace Go.Proofs.Qxb6602779a
/- THE CELL 'sum', in the pinned program and in every row, IS THE sha256 OF THE DUMP (.gsa) THAT Qxb6602779aProg.lean LOADS. Nothing in Lean hashes anything: it is a label: what it is worth is what the hold of that sum in a sandbox is worth. -/
noncomputable def Try.pinned : Pinned := { name := "qxb6602779a", sum := "612413bd5ba56b14b00129c91008e44d8441d080a74085d81023a9a6580e5b41", checked := Try.checked }
namespace Rows
def none {H : Type} : Left H := { results := [], args := [] }

/-- 'zzlaws_root_b1.FnStatusIgnoresPayload': WHATEVER THE INPUT: true; the input reads as it did. -/
def fnStatusIgnoresPayloadSpec : ChangeSpec := { name := "fnStatusIgnoresPayload", fn := fun _ => fun
  | [d1, d2, d3, d4, d5, d6, d7] => { results := [.lit (.bool true)], args := [d1, d2, d3, d4, d5, d6, d7] }
  | _ => none }
def fnStatusIgnoresPayloadRow : OpenClaim := { program := "qxb6602779a", sum := "612413bd5ba56b14b00129c91008e44d8441d080a74085d81023a9a6580e5b41", func := "example.com/fallback/fallback/zzlaws_root_b1.FnStatusIgnoresPayload", spec := "fnStatusIgnoresPayload", apart := false }
def FnStatusIgnoresPayloadSaid : Prop := fnStatusIgnoresPayloadRow.holds Try.pinned (OpenSpec.ofChange fnStatusIgnoresPayloadSpec)

/-- ITS FALSE NEIGHBOUR: 'it returns false'. Refute it at one input. -/
def fnStatusIgnoresPayloadWrong : ChangeSpec := { name := "fnStatusIgnoresPayload", fn := fun _ => fun
  | [d1, d2, d3, d4, d5, d6, d7] => { results := [.lit (.bool false)], args := [d1, d2, d3, d4, d5, d6, d7] }
  | _ => none }
def FnStatusIgnoresPayloadWrongFalsely : Prop := fnStatusIgnoresPayloadRow.holds Try.pinned (OpenSpec.ofChange fnStatusIgnoresPayloadWrong)

/-- 'zzlaws_root_b1.FnStatusOkIffKnown': WHATEVER THE INPUT: true; the input reads as it did. -/
def fnStatusOkIffKnownSpec : ChangeSpec := { name := "fnStatusOkIffKnown", fn := fun _ => fun
  | [d1, d2, d3, d4] => { results := [.lit (.bool true)], args := [d1, d2, d3, d4] }
  | _ => none }
def fnStatusOkIffKnownRow : OpenClaim := { program := "qxb6602779a", sum := "612413bd5ba56b14b00129c91008e44d8441d080a74085d81023a9a6580e5b41", func := "example.com/fallback/fallback/zzlaws_root_b1.FnStatusOkIffKnown", spec := "fnStatusOkIffKnown", apart := false }
def FnStatusOkIffKnownSaid : Prop := fnStatusOkIffKnownRow.holds Try.pinned (OpenSpec.ofChange fnStatusOkIffKnownSpec)

/-- ITS FALSE NEIGHBOUR: 'it returns false'. Refute it at one input. -/
def fnStatusOkIffKnownWrong : ChangeSpec := { name := "fnStatusOkIffKnown", fn := fun _ => fun
  | [d1, d2, d3, d4] => { results := [.lit (.bool false)], args := [d1, d2, d3, d4] }
  | _ => none }
def FnStatusOkIffKnownWrongFalsely : Prop := fnStatusOkIffKnownRow.holds Try.pinned (OpenSpec.ofChange fnStatusOkIffKnownWrong)

/-- 'zzlaws_root_b1.FnStartForgetsPast': WHATEVER THE INPUT: true; the input reads as it did. -/
def fnStartForgetsPastSpec : ChangeSpec := { name := "fnStartForgetsPast", fn := fun _ => fun
  | [d1, d2, d3, d4, d5, d6, d7, d8, d9] => { results := [.lit (.bool true)], args := [d1, d2, d3, d4, d5, d6, d7, d8, d9] }
  | _ => none }
def fnStartForgetsPastRow : OpenClaim := { program := "qxb6602779a", sum := "612413bd5ba56b14b00129c91008e44d8441d080a74085d81023a9a6580e5b41", func := "example.com/fallback/fallback/zzlaws_root_b1.FnStartForgetsPast", spec := "fnStartForgetsPast", apart := false }
def FnStartForgetsPastSaid : Prop := fnStartForgetsPastRow.holds Try.pinned (OpenSpec.ofChange fnStartForgetsPastSpec)

/-- ITS FALSE NEIGHBOUR: 'it returns false'. Refute it at one input. -/
def fnStartForgetsPastWrong : ChangeSpec := { name := "fnStartForgetsPast", fn := fun _ => fun
  | [d1, d2, d3, d4, d5, d6, d7, d8, d9] => { results := [.lit (.bool false)], args := [d1, d2, d3, d4, d5, d6, d7, d8, d9] }
  | _ => none }
def FnStartForgetsPastWrongFalsely : Prop := fnStartForgetsPastRow.holds Try.pinned (OpenSpec.ofChange fnStartForgetsPastWrong)

/-- 'zzlaws_root_b1.FnStartLastWins': WHATEVER THE INPUT: true; the input reads as it did. -/
def fnStartLastWinsSpec : ChangeSpec := { name := "fnStartLastWins", fn := fun _ => fun
  | [d1, d2, d3, d4, d5, d6] => { results := [.lit (.bool true)], args := [d1, d2, d3, d4, d5, d6] }
  | _ => none }
def fnStartLastWinsRow : OpenClaim := { program := "qxb6602779a", sum := "612413bd5ba56b14b00129c91008e44d8441d080a74085d81023a9a6580e5b41", func := "example.com/fallback/fallback/zzlaws_root_b1.FnStartLastWins", spec := "fnStartLastWins", apart := false }
def FnStartLastWinsSaid : Prop := fnStartLastWinsRow.holds Try.pinned (OpenSpec.ofChange fnStartLastWinsSpec)

/-- ITS FALSE NEIGHBOUR: 'it returns false'. Refute it at one input. -/
def fnStartLastWinsWrong : ChangeSpec := { name := "fnStartLastWins", fn := fun _ => fun
  | [d1, d2, d3, d4, d5, d6] => { results := [.lit (.bool false)], args := [d1, d2, d3, d4, d5, d6] }
  | _ => none }
def FnStartLastWinsWrongFalsely : Prop := fnStartLastWinsRow.holds Try.pinned (OpenSpec.ofChange fnStartLastWinsWrong)

end Rows
end Go.Proofs.Qxb6602779a
