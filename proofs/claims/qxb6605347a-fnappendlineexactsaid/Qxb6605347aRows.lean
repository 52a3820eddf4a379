/-
  No cell of these rows narrows 'for every input' (looked for: loops, veiled, ifaces, maps, wideKeys, modest, calm, conditions, laid).
  DERIVED. THE GIVEN ROWS OF THIS SEAT. 2 by the template 'for every input the law returns true; each argument reads behind the call as it read before'; 0 by the template 'total and deterministic' (their statements: Qxb6605347aTotals.lean).
  GIVEN WITH THE SEED: the statements are not yours to turn. If you find one false, say at which input.
  Laid BY PROGRAM, IN A SANDBOX (cutbox-rows.mjs): the forced cells as the released guide's own fill.sh prints them over the translation 05b61e1c57425614… (all of the seat's roots in one cut). By AI agents, Wed Nov 11 2026. No macro, syntax, notation, axiom, sorry.
-/
import Derived.Test.Qxb6605347aChecked
import GoSem.Claim
import GoSem.ClaimJoined
import GoSem.ClaimMapViews
import Derived.JoinedTies
import Derived.KernelRfl
namespace Go.Proofs.Qxb6605347a
/- THE CELL 'sum', in the pinned program and in every row, IS THE sha256 OF THE DUMP (.gsa) THAT Qxb6605347aProg.lean LOADS. Nothing in Lean hashes anything: it is a label: what it is worth is what the hold of that sum in a sandbox is worth. -/
noncomputable def Try.pinned : Pinned := { name := "qxb6605347a", sum := "05b61e1c5742561438cb88ebb2259633b748504ad1a3b1a27e7d5a4bfd9a2830", checked := Try.checked }
namespace Rows
def none {H : Type} : Left H := { results := [], args := [] }

/-- 'zzlaws_pkg_resp_b1.FnParseLengthExact': WHATEVER THE INPUT: true; the input reads as it did. -/
def fnParseLengthExactSpec : ChangeSpec := { name := "fnParseLengthExact", fn := fun _ => fun
  | [d] => { results := [.lit (.bool true)], args := [d] }
  | _ => none }
def fnParseLengthExactRow : OpenClaim := { program := "qxb6605347a", sum := "05b61e1c5742561438cb88ebb2259633b748504ad1a3b1a27e7d5a4bfd9a2830", func := "example.com/ballotbox/ballotbox/zzlaws_pkg_resp_b1.FnParseLengthExact", spec := "fnParseLengthExact", apart := false }
def FnParseLengthExactSaid : Prop := fnParseLengthExactRow.holds Try.pinned (OpenSpec.ofChange fnParseLengthExactSpec)

/-- ITS FALSE NEIGHBOUR: 'it returns false'. Refute it at one input. -/
def fnParseLengthExactWrong : ChangeSpec := { name := "fnParseLengthExact", fn := fun _ => fun
  | [d] => { results := [.lit (.bool false)], args := [d] }
  | _ => none }
def FnParseLengthExactWrongFalsely : Prop := fnParseLengthExactRow.holds Try.pinned (OpenSpec.ofChange fnParseLengthExactWrong)

/-- 'zzlaws_pkg_resp_b1.FnAppendLineExact': WHATEVER THE INPUT: true; the input reads as it did. -/
def fnAppendLineExactSpec : ChangeSpec := { name := "fnAppendLineExact", fn := fun _ => fun
  | [d1, d2] => { results := [.lit (.bool true)], args := [d1, d2] }
  | _ => none }
def fnAppendLineExactRow : OpenClaim := { program := "qxb6605347a", sum := "05b61e1c5742561438cb88ebb2259633b748504ad1a3b1a27e7d5a4bfd9a2830", func := "example.com/ballotbox/ballotbox/zzlaws_pkg_resp_b1.FnAppendLineExact", spec := "fnAppendLineExact", apart := false }
def FnAppendLineExactSaid : Prop := fnAppendLineExactRow.holds Try.pinned (OpenSpec.ofChange fnAppendLineExactSpec)

/-- ITS FALSE NEIGHBOUR: 'it returns false'. Refute it at one input. -/
def fnAppendLineExactWrong : ChangeSpec := { name := "fnAppendLineExact", fn := fun _ => fun
  | [d1, d2] => { results := [.lit (.bool false)], args := [d1, d2] }
  | _ => none }
def FnAppendLineExactWrongFalsely : Prop := fnAppendLineExactRow.holds Try.pinned (OpenSpec.ofChange fnAppendLineExactWrong)

end Rows
end Go.Proofs.Qxb6605347a
