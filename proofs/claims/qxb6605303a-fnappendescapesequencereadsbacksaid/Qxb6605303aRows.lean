/-
  No cell of these rows narrows 'for every input' (looked for: loops, veiled, ifaces, maps, wideKeys, modest, calm, conditions, laid).
  DERIVED. THE GIVEN ROWS OF THIS SEAT. 4 by the template 'for every input the law returns true; each argument reads behind the call as it read before'; 0 by the template 'total and deterministic' (their statements: Qxb6605303aTotals.lean).
  GIVEN WITH THE SEED: the statements are not yours to turn. If you find one false, say at which input.
  Laid BY PROGRAM, IN A SANDBOX (cutbox-rows.mjs): the forced cells as the released guide's own fill.sh prints them over the translation 8927a0a5a10afdd7… (all of the seat's roots in one cut). By AI agents, Wed Nov 11 2026. No macro, syntax, notation, axiom, sorry.
-/
import Derived.Test.Qxb6605303aChecked
import GoSem.Claim
import GoSem.ClaimJoined
import GoSem.ClaimMapViews
import Derived.JoinedTies
import Derived.KernelRfl
namespace Go.Proofs.Qxb6605303a
/- THE CELL 'sum', in the pinned program and in every row, IS THE sha256 OF THE DUMP (.gsa) THAT Qxb6605303aProg.lean LOADS. Nothing in Lean hashes anything: it is a label: what it is worth is what the hold of that sum in a sandbox is worth. -/
noncomputable def Try.pinned : Pinned := { name := "qxb6605303a", sum := "8927a0a5a10afdd7c96c40a9301f50963d0ffdc4adabbd51518c6c0b4d6a8772", checked := Try.checked }
namespace Rows
def none {H : Type} : Left H := { results := [], args := [] }

/-- 'zzlaws_report_b1.FnAppendEscapeExact': WHATEVER THE INPUT: true; the input reads as it did. -/
def fnAppendEscapeExactSpec : ChangeSpec := { name := "fnAppendEscapeExact", fn := fun _ => fun
  | [d1, d2] => { results := [.lit (.bool true)], args := [d1, d2] }
  | _ => none }
def fnAppendEscapeExactRow : OpenClaim := { program := "qxb6605303a", sum := "8927a0a5a10afdd7c96c40a9301f50963d0ffdc4adabbd51518c6c0b4d6a8772", func := "example.com/bondsieve/bondsieve/zzlaws_report_b1.FnAppendEscapeExact", spec := "fnAppendEscapeExact", apart := false }
def FnAppendEscapeExactSaid : Prop := fnAppendEscapeExactRow.holds Try.pinned (OpenSpec.ofChange fnAppendEscapeExactSpec)

/-- ITS FALSE NEIGHBOUR: 'it returns false'. Refute it at one input. -/
def fnAppendEscapeExactWrong : ChangeSpec := { name := "fnAppendEscapeExact", fn := fun _ => fun
  | [d1, d2] => { results := [.lit (.bool false)], args := [d1, d2] }
  | _ => none }
def FnAppendEscapeExactWrongFalsely : Prop := fnAppendEscapeExactRow.holds Try.pinned (OpenSpec.ofChange fnAppendEscapeExactWrong)

/-- 'zzlaws_report_b1.FnAppendEscapeSequenceReadsBack': WHATEVER THE INPUT: true; the input reads as it did. -/
def fnAppendEscapeSequenceReadsBackSpec : ChangeSpec := { name := "fnAppendEscapeSequenceReadsBack", fn := fun _ => fun
  | [d1, d2] => { results := [.lit (.bool true)], args := [d1, d2] }
  | _ => none }
def fnAppendEscapeSequenceReadsBackRow : OpenClaim := { program := "qxb6605303a", sum := "8927a0a5a10afdd7c96c40a9301f50963d0ffdc4adabbd51518c6c0b4d6a8772", func := "example.com/bondsieve/bondsieve/zzlaws_report_b1.FnAppendEscapeSequenceReadsBack", spec := "fnAppendEscapeSequenceReadsBack", apart := false }
def FnAppendEscapeSequenceReadsBackSaid : Prop := fnAppendEscapeSequenceReadsBackRow.holds Try.pinned (OpenSpec.ofChange fnAppendEscapeSequenceReadsBackSpec)

/-- ITS FALSE NEIGHBOUR: 'it returns false'. Refute it at one input. -/
def fnAppendEscapeSequenceReadsBackWrong : ChangeSpec := { name := "fnAppendEscapeSequenceReadsBack", fn := fun _ => fun
  | [d1, d2] => { results := [.lit (.bool false)], args := [d1, d2] }
  | _ => none }
def FnAppendEscapeSequenceReadsBackWrongFalsely : Prop := fnAppendEscapeSequenceReadsBackRow.holds Try.pinned (OpenSpec.ofChange fnAppendEscapeSequenceReadsBackWrong)

/-- 'zzlaws_report_b1.FnPadOfReachesColumnEnd': WHATEVER THE INPUT: true; the input reads as it did. -/
def fnPadOfReachesColumnEndSpec : ChangeSpec := { name := "fnPadOfReachesColumnEnd", fn := fun _ => fun
  | [d1, d2, d3, d4] => { results := [.lit (.bool true)], args := [d1, d2, d3, d4] }
  | _ => none }
def fnPadOfReachesColumnEndRow : OpenClaim := { program := "qxb6605303a", sum := "8927a0a5a10afdd7c96c40a9301f50963d0ffdc4adabbd51518c6c0b4d6a8772", func := "example.com/bondsieve/bondsieve/zzlaws_report_b1.FnPadOfReachesColumnEnd", spec := "fnPadOfReachesColumnEnd", apart := false }
def FnPadOfReachesColumnEndSaid : Prop := fnPadOfReachesColumnEndRow.holds Try.pinned (OpenSpec.ofChange fnPadOfReachesColumnEndSpec)

/-- ITS FALSE NEIGHBOUR: 'it returns false'. Refute it at one input. -/
def fnPadOfReachesColumnEndWrong : ChangeSpec := { name := "fnPadOfReachesColumnEnd", fn := fun _ => fun
  | [d1, d2, d3, d4] => { results := [.lit (.bool false)], args := [d1, d2, d3, d4] }
  | _ => none }
def FnPadOfReachesColumnEndWrongFalsely : Prop := fnPadOfReachesColumnEndRow.holds Try.pinned (OpenSpec.ofChange fnPadOfReachesColumnEndWrong)

/-- 'zzlaws_report_b1.FnPadOfSpreadRecurrence': WHATEVER THE INPUT: true; the input reads as it did. -/
def fnPadOfSpreadRecurrenceSpec : ChangeSpec := { name := "fnPadOfSpreadRecurrence", fn := fun _ => fun
  | [d1, d2, d3, d4] => { results := [.lit (.bool true)], args := [d1, d2, d3, d4] }
  | _ => none }
def fnPadOfSpreadRecurrenceRow : OpenClaim := { program := "qxb6605303a", sum := "8927a0a5a10afdd7c96c40a9301f50963d0ffdc4adabbd51518c6c0b4d6a8772", func := "example.com/bondsieve/bondsieve/zzlaws_report_b1.FnPadOfSpreadRecurrence", spec := "fnPadOfSpreadRecurrence", apart := false }
def FnPadOfSpreadRecurrenceSaid : Prop := fnPadOfSpreadRecurrenceRow.holds Try.pinned (OpenSpec.ofChange fnPadOfSpreadRecurrenceSpec)

/-- ITS FALSE NEIGHBOUR: 'it returns false'. Refute it at one input. -/
def fnPadOfSpreadRecurrenceWrong : ChangeSpec := { name := "fnPadOfSpreadRecurrence", fn := fun _ => fun
  | [d1, d2, d3, d4] => { results := [.lit (.bool false)], args := [d1, d2, d3, d4] }
  | _ => none }
def FnPadOfSpreadRecurrenceWrongFalsely : Prop := fnPadOfSpreadRecurrenceRow.holds Try.pinned (OpenSpec.ofChange fnPadOfSpreadRecurrenceWrong)

end Rows
end Go.Proofs.Qxb6605303a
