/-
  No cell of these rows narrows 'for every input' (looked for: loops, veiled, ifaces, maps, wideKeys, modest, calm, conditions, laid).
  DERIVED. THE GIVEN ROWS OF THIS SEAT. 2 by the template 'for every input the law returns true; each argument reads behind the call as it read before'; 0 by the template 'total and deterministic' (their statements: Qxb6604661aTotals.lean).
  GIVEN WITH THE SEED: the statements are not yours to turn. If you find one false, say at which input.
  Laid BY PROGRAM, IN A SANDBOX (cutbox-rows.mjs): the forced cells as the released guide's own fill.sh prints them over the translation 8d21c8d545f33ad9… (all of the seat's roots in one cut). By AI agents, Wed Nov 11 2026. No macro, syntax, notation, axiom, sorry.
-/
import Derived.Test.Qxb6604661aChecked
import GoSem.Claim
import GoSem.ClaimJoined
import GoSem.ClaimMapViews
import Derived.JoinedTies
import Derived.KernelRfl
namespace Go.Proofs.Qxb6604661a
/- THE CELL 'sum', in the pinned program and in every row, IS THE sha256 OF THE DUMP (.gsa) THAT Qxb6604661aProg.lean LOADS. Nothing in Lean hashes anything: it is a label: what it is worth is what the hold of that sum in a sandbox is worth. -/
noncomputable def Try.pinned : Pinned := { name := "qxb6604661a", sum := "8d21c8d545f33ad999780921dc73a4c7db1f0d62a587b80d551d6e1ba3f96b43", checked := Try.checked }
namespace Rows
def none {H : Type} : Left H := { results := [], args := [] }

/-- 'zzlaws_internal_store_b1.FnDeadColumnsNineColumnsHolderSecond': WHATEVER THE INPUT: true; the input reads as it did. -/
def fnDeadColumnsNineColumnsHolderSecondSpec : ChangeSpec := { name := "fnDeadColumnsNineColumnsHolderSecond", fn := fun _ => fun
  | [d] => { results := [.lit (.bool true)], args := [d] }
  | _ => none }
def fnDeadColumnsNineColumnsHolderSecondRow : OpenClaim := { program := "qxb6604661a", sum := "8d21c8d545f33ad999780921dc73a4c7db1f0d62a587b80d551d6e1ba3f96b43", func := "example.com/holdfast/holdfast/zzlaws_internal_store_b1.FnDeadColumnsNineColumnsHolderSecond", spec := "fnDeadColumnsNineColumnsHolderSecond", apart := false }
def FnDeadColumnsNineColumnsHolderSecondSaid : Prop := fnDeadColumnsNineColumnsHolderSecondRow.holds Try.pinned (OpenSpec.ofChange fnDeadColumnsNineColumnsHolderSecondSpec)

/-- ITS FALSE NEIGHBOUR: 'it returns false'. Refute it at one input. -/
def fnDeadColumnsNineColumnsHolderSecondWrong : ChangeSpec := { name := "fnDeadColumnsNineColumnsHolderSecond", fn := fun _ => fun
  | [d] => { results := [.lit (.bool false)], args := [d] }
  | _ => none }
def FnDeadColumnsNineColumnsHolderSecondWrongFalsely : Prop := fnDeadColumnsNineColumnsHolderSecondRow.holds Try.pinned (OpenSpec.ofChange fnDeadColumnsNineColumnsHolderSecondWrong)

/-- 'zzlaws_internal_store_b1.FnDeadColumnsSplicesHolderAfterEventID': WHATEVER THE INPUT: true; the input reads as it did. -/
def fnDeadColumnsSplicesHolderAfterEventIDSpec : ChangeSpec := { name := "fnDeadColumnsSplicesHolderAfterEventID", fn := fun _ => fun
  | [d1, d2] => { results := [.lit (.bool true)], args := [d1, d2] }
  | _ => none }
def fnDeadColumnsSplicesHolderAfterEventIDRow : OpenClaim := { program := "qxb6604661a", sum := "8d21c8d545f33ad999780921dc73a4c7db1f0d62a587b80d551d6e1ba3f96b43", func := "example.com/holdfast/holdfast/zzlaws_internal_store_b1.FnDeadColumnsSplicesHolderAfterEventID", spec := "fnDeadColumnsSplicesHolderAfterEventID", apart := false }
def FnDeadColumnsSplicesHolderAfterEventIDSaid : Prop := fnDeadColumnsSplicesHolderAfterEventIDRow.holds Try.pinned (OpenSpec.ofChange fnDeadColumnsSplicesHolderAfterEventIDSpec)

/-- ITS FALSE NEIGHBOUR: 'it returns false'. Refute it at one input. -/
def fnDeadColumnsSplicesHolderAfterEventIDWrong : ChangeSpec := { name := "fnDeadColumnsSplicesHolderAfterEventID", fn := fun _ => fun
  | [d1, d2] => { results := [.lit (.bool false)], args := [d1, d2] }
  | _ => none }
def FnDeadColumnsSplicesHolderAfterEventIDWrongFalsely : Prop := fnDeadColumnsSplicesHolderAfterEventIDRow.holds Try.pinned (OpenSpec.ofChange fnDeadColumnsSplicesHolderAfterEventIDWrong)

end Rows
end Go.Proofs.Qxb6604661a
