/-
  No cell of these rows narrows 'for every input' (looked for: loops, veiled, ifaces, maps, wideKeys, modest, calm, conditions, laid).
  DERIVED. THE GIVEN ROWS OF THIS SEAT. 2 by the template 'for every input the law returns true; each argument reads behind the call as it read before'; 0 by the template 'total and deterministic' (their statements: Qxb6600474aTotals.lean).
  GIVEN WITH THE SEED: the statements are not yours to turn. If you find one false, say at which input.
  Laid BY PROGRAM, IN A SANDBOX (cutbox-rows.mjs): the forced cells as the released guide's own fill.sh prints them over the translation 74a60a8e2a0d12f9… (all of the seat's roots in one cut). By AI agents, Wed Nov 11 2026. No macro, syntax, notation, axiom, sorry.
-/
import Derived.Test.Qxb6600474aChecked
import GoSem.Claim
import GoSem.ClaimJoined
import GoSem.ClaimMapViews
import Derived.JoinedTies
import Derived.KernelRfl
namespace Go.Proofs.Qxb6600474a
/- THE CELL 'sum', in the pinned program and in every row, IS THE sha256 OF THE DUMP (.gsa) THAT Qxb6600474aProg.lean LOADS. Nothing in Lean hashes anything: it is a label: what it is worth is what the hold of that sum in a sandbox is worth. -/
noncomputable def Try.pinned : Pinned := { name := "qxb6600474a", sum := "74a60a8e2a0d12f9baa34d5dd03e1a1067dc7e7f000b32825e64acb2174c9e5d", checked := Try.checked }
namespace Rows
def none {H : Type} : Left H := { results := [], args := [] }

/-- 'zzlaws_counts_b1.FnPutKeepsEveryKeyReachable': WHATEVER THE INPUT: true; the input reads as it did. -/
def fnPutKeepsEveryKeyReachableSpec : ChangeSpec := { name := "fnPutKeepsEveryKeyReachable", fn := fun _ => fun
  | [d1, d2] => { results := [.lit (.bool true)], args := [d1, d2] }
  | _ => none }
def fnPutKeepsEveryKeyReachableRow : OpenClaim := { program := "qxb6600474a", sum := "74a60a8e2a0d12f9baa34d5dd03e1a1067dc7e7f000b32825e64acb2174c9e5d", func := "example.com/guessd/guessd/zzlaws_counts_b1.FnPutKeepsEveryKeyReachable", spec := "fnPutKeepsEveryKeyReachable", apart := false }
def FnPutKeepsEveryKeyReachableSaid : Prop := fnPutKeepsEveryKeyReachableRow.holds Try.pinned (OpenSpec.ofChange fnPutKeepsEveryKeyReachableSpec)

/-- ITS FALSE NEIGHBOUR: 'it returns false'. Refute it at one input. -/
def fnPutKeepsEveryKeyReachableWrong : ChangeSpec := { name := "fnPutKeepsEveryKeyReachable", fn := fun _ => fun
  | [d1, d2] => { results := [.lit (.bool false)], args := [d1, d2] }
  | _ => none }
def FnPutKeepsEveryKeyReachableWrongFalsely : Prop := fnPutKeepsEveryKeyReachableRow.holds Try.pinned (OpenSpec.ofChange fnPutKeepsEveryKeyReachableWrong)

/-- 'zzlaws_counts_b1.FnPutOccupiedSetOrderFree': WHATEVER THE INPUT: true; the input reads as it did. -/
def fnPutOccupiedSetOrderFreeSpec : ChangeSpec := { name := "fnPutOccupiedSetOrderFree", fn := fun _ => fun
  | [d1, d2] => { results := [.lit (.bool true)], args := [d1, d2] }
  | _ => none }
def fnPutOccupiedSetOrderFreeRow : OpenClaim := { program := "qxb6600474a", sum := "74a60a8e2a0d12f9baa34d5dd03e1a1067dc7e7f000b32825e64acb2174c9e5d", func := "example.com/guessd/guessd/zzlaws_counts_b1.FnPutOccupiedSetOrderFree", spec := "fnPutOccupiedSetOrderFree", apart := false }
def FnPutOccupiedSetOrderFreeSaid : Prop := fnPutOccupiedSetOrderFreeRow.holds Try.pinned (OpenSpec.ofChange fnPutOccupiedSetOrderFreeSpec)

/-- ITS FALSE NEIGHBOUR: 'it returns false'. Refute it at one input. -/
def fnPutOccupiedSetOrderFreeWrong : ChangeSpec := { name := "fnPutOccupiedSetOrderFree", fn := fun _ => fun
  | [d1, d2] => { results := [.lit (.bool false)], args := [d1, d2] }
  | _ => none }
def FnPutOccupiedSetOrderFreeWrongFalsely : Prop := fnPutOccupiedSetOrderFreeRow.holds Try.pinned (OpenSpec.ofChange fnPutOccupiedSetOrderFreeWrong)

end Rows
end Go.Proofs.Qxb6600474a
