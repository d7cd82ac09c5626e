/-
  No cell of these rows narrows 'for every input' (looked for: loops, veiled, ifaces, maps, wideKeys, modest, calm, conditions, laid).
  DERIVED. THE GIVEN ROWS OF THIS SEAT. 5 by the template 'for every input the law returns true; each argument reads behind the call as it read before'; 0 by the template 'total and deterministic' (their statements: Qxb6602659aTotals.lean).
  GIVEN WITH THE SEED: the statements are not yours to turn. If you find one false, say at which input.
  Laid BY PROGRAM, IN A SANDBOX (cutbox-rows.mjs): the forced cells as the released guide's own fill.sh prints them over the translation 7e33382b1a41dd52… (all of the seat's roots in one cut). By AI agents, Wed Nov 11 2026. No macro, syntax, notation, axiom, sorry.
-/
import Derived.Test.Qxb6602659aChecked
import GoSem.Claim
import GoSem.ClaimJoined
import GoSem.ClaimMapViews
import Derived.JoinedTies
import Derived.KernelRfl
namespace Go.Proofs.Qxb6602659a
/- THE CELL 'sum', in the pinned program and in every row, IS THE sha256 OF THE DUMP (.gsa) THAT Qxb6602659aProg.lean LOADS. Nothing in Lean hashes anything: it is a label: what it is worth is what the hold of that sum in a sandbox is worth. -/
noncomputable def Try.pinned : Pinned := { name := "qxb6602659a", sum := "7e33382b1a41dd52819b0e61563f4831ca56abbef8fd6fe347bc297ebd42b1f8", checked := Try.checked }
namespace Rows
def none {H : Type} : Left H := { results := [], args := [] }

/-- 'zzlaws_internal_archive_b1.FnWindowPutScriptMatchesRingClosedForm': WHATEVER THE INPUT: true; the input reads as it did. -/
def fnWindowPutScriptMatchesRingClosedFormSpec : ChangeSpec := { name := "fnWindowPutScriptMatchesRingClosedForm", fn := fun _ => fun
  | [d1, d2, d3, d4, d5] => { results := [.lit (.bool true)], args := [d1, d2, d3, d4, d5] }
  | _ => none }
def fnWindowPutScriptMatchesRingClosedFormRow : OpenClaim := { program := "qxb6602659a", sum := "7e33382b1a41dd52819b0e61563f4831ca56abbef8fd6fe347bc297ebd42b1f8", func := "example.com/bindery/bindery/zzlaws_internal_archive_b1.FnWindowPutScriptMatchesRingClosedForm", spec := "fnWindowPutScriptMatchesRingClosedForm", apart := false }
def FnWindowPutScriptMatchesRingClosedFormSaid : Prop := fnWindowPutScriptMatchesRingClosedFormRow.holds Try.pinned (OpenSpec.ofChange fnWindowPutScriptMatchesRingClosedFormSpec)

/-- ITS FALSE NEIGHBOUR: 'it returns false'. Refute it at one input. -/
def fnWindowPutScriptMatchesRingClosedFormWrong : ChangeSpec := { name := "fnWindowPutScriptMatchesRingClosedForm", fn := fun _ => fun
  | [d1, d2, d3, d4, d5] => { results := [.lit (.bool false)], args := [d1, d2, d3, d4, d5] }
  | _ => none }
def FnWindowPutScriptMatchesRingClosedFormWrongFalsely : Prop := fnWindowPutScriptMatchesRingClosedFormRow.holds Try.pinned (OpenSpec.ofChange fnWindowPutScriptMatchesRingClosedFormWrong)

/-- 'zzlaws_internal_archive_b1.FnWindowRepeatAgreesWithPutsOneByOne': WHATEVER THE INPUT: true; the input reads as it did. -/
def fnWindowRepeatAgreesWithPutsOneByOneSpec : ChangeSpec := { name := "fnWindowRepeatAgreesWithPutsOneByOne", fn := fun _ => fun
  | [d1, d2, d3, d4, d5, d6] => { results := [.lit (.bool true)], args := [d1, d2, d3, d4, d5, d6] }
  | _ => none }
def fnWindowRepeatAgreesWithPutsOneByOneRow : OpenClaim := { program := "qxb6602659a", sum := "7e33382b1a41dd52819b0e61563f4831ca56abbef8fd6fe347bc297ebd42b1f8", func := "example.com/bindery/bindery/zzlaws_internal_archive_b1.FnWindowRepeatAgreesWithPutsOneByOne", spec := "fnWindowRepeatAgreesWithPutsOneByOne", apart := false }
def FnWindowRepeatAgreesWithPutsOneByOneSaid : Prop := fnWindowRepeatAgreesWithPutsOneByOneRow.holds Try.pinned (OpenSpec.ofChange fnWindowRepeatAgreesWithPutsOneByOneSpec)

/-- ITS FALSE NEIGHBOUR: 'it returns false'. Refute it at one input. -/
def fnWindowRepeatAgreesWithPutsOneByOneWrong : ChangeSpec := { name := "fnWindowRepeatAgreesWithPutsOneByOne", fn := fun _ => fun
  | [d1, d2, d3, d4, d5, d6] => { results := [.lit (.bool false)], args := [d1, d2, d3, d4, d5, d6] }
  | _ => none }
def FnWindowRepeatAgreesWithPutsOneByOneWrongFalsely : Prop := fnWindowRepeatAgreesWithPutsOneByOneRow.holds Try.pinned (OpenSpec.ofChange fnWindowRepeatAgreesWithPutsOneByOneWrong)

/-- 'zzlaws_internal_archive_b1.FnWindowRepeatClosedForm': WHATEVER THE INPUT: true; the input reads as it did. -/
def fnWindowRepeatClosedFormSpec : ChangeSpec := { name := "fnWindowRepeatClosedForm", fn := fun _ => fun
  | [d1, d2, d3, d4, d5, d6] => { results := [.lit (.bool true)], args := [d1, d2, d3, d4, d5, d6] }
  | _ => none }
def fnWindowRepeatClosedFormRow : OpenClaim := { program := "qxb6602659a", sum := "7e33382b1a41dd52819b0e61563f4831ca56abbef8fd6fe347bc297ebd42b1f8", func := "example.com/bindery/bindery/zzlaws_internal_archive_b1.FnWindowRepeatClosedForm", spec := "fnWindowRepeatClosedForm", apart := false }
def FnWindowRepeatClosedFormSaid : Prop := fnWindowRepeatClosedFormRow.holds Try.pinned (OpenSpec.ofChange fnWindowRepeatClosedFormSpec)

/-- ITS FALSE NEIGHBOUR: 'it returns false'. Refute it at one input. -/
def fnWindowRepeatClosedFormWrong : ChangeSpec := { name := "fnWindowRepeatClosedForm", fn := fun _ => fun
  | [d1, d2, d3, d4, d5, d6] => { results := [.lit (.bool false)], args := [d1, d2, d3, d4, d5, d6] }
  | _ => none }
def FnWindowRepeatClosedFormWrongFalsely : Prop := fnWindowRepeatClosedFormRow.holds Try.pinned (OpenSpec.ofChange fnWindowRepeatClosedFormWrong)

/-- 'zzlaws_internal_archive_b1.FnWindowRepeatSplitMatchIsOneMatch': WHATEVER THE INPUT: true; the input reads as it did. -/
def fnWindowRepeatSplitMatchIsOneMatchSpec : ChangeSpec := { name := "fnWindowRepeatSplitMatchIsOneMatch", fn := fun _ => fun
  | [d1, d2, d3, d4, d5, d6, d7] => { results := [.lit (.bool true)], args := [d1, d2, d3, d4, d5, d6, d7] }
  | _ => none }
def fnWindowRepeatSplitMatchIsOneMatchRow : OpenClaim := { program := "qxb6602659a", sum := "7e33382b1a41dd52819b0e61563f4831ca56abbef8fd6fe347bc297ebd42b1f8", func := "example.com/bindery/bindery/zzlaws_internal_archive_b1.FnWindowRepeatSplitMatchIsOneMatch", spec := "fnWindowRepeatSplitMatchIsOneMatch", apart := false }
def FnWindowRepeatSplitMatchIsOneMatchSaid : Prop := fnWindowRepeatSplitMatchIsOneMatchRow.holds Try.pinned (OpenSpec.ofChange fnWindowRepeatSplitMatchIsOneMatchSpec)

/-- ITS FALSE NEIGHBOUR: 'it returns false'. Refute it at one input. -/
def fnWindowRepeatSplitMatchIsOneMatchWrong : ChangeSpec := { name := "fnWindowRepeatSplitMatchIsOneMatch", fn := fun _ => fun
  | [d1, d2, d3, d4, d5, d6, d7] => { results := [.lit (.bool false)], args := [d1, d2, d3, d4, d5, d6, d7] }
  | _ => none }
def FnWindowRepeatSplitMatchIsOneMatchWrongFalsely : Prop := fnWindowRepeatSplitMatchIsOneMatchRow.holds Try.pinned (OpenSpec.ofChange fnWindowRepeatSplitMatchIsOneMatchWrong)

/-- 'zzlaws_internal_archive_b1.FnDeflate64CodesMatchTheFormatTable': WHATEVER THE INPUT: true; the input reads as it did. -/
def fnDeflate64CodesMatchTheFormatTableSpec : ChangeSpec := { name := "fnDeflate64CodesMatchTheFormatTable", fn := fun _ => fun
  | [] => { results := [.lit (.bool true)], args := [] }
  | _ => none }
def fnDeflate64CodesMatchTheFormatTableRow : OpenClaim := { program := "qxb6602659a", sum := "7e33382b1a41dd52819b0e61563f4831ca56abbef8fd6fe347bc297ebd42b1f8", func := "example.com/bindery/bindery/zzlaws_internal_archive_b1.FnDeflate64CodesMatchTheFormatTable", spec := "fnDeflate64CodesMatchTheFormatTable", apart := false }
def FnDeflate64CodesMatchTheFormatTableSaid : Prop := fnDeflate64CodesMatchTheFormatTableRow.holds Try.pinned (OpenSpec.ofChange fnDeflate64CodesMatchTheFormatTableSpec)

/-- ITS FALSE NEIGHBOUR: 'it returns false'. Refute it at one input. -/
def fnDeflate64CodesMatchTheFormatTableWrong : ChangeSpec := { name := "fnDeflate64CodesMatchTheFormatTable", fn := fun _ => fun
  | [] => { results := [.lit (.bool false)], args := [] }
  | _ => none }
def FnDeflate64CodesMatchTheFormatTableWrongFalsely : Prop := fnDeflate64CodesMatchTheFormatTableRow.holds Try.pinned (OpenSpec.ofChange fnDeflate64CodesMatchTheFormatTableWrong)

end Rows
end Go.Proofs.Qxb6602659a
