/-
  No cell of these rows narrows 'for every input' (looked for: loops, veiled, ifaces, maps, wideKeys, modest, calm, conditions, laid).
  DERIVED. THE GIVEN ROWS OF THIS SEAT. 2 by the template 'for every input the law returns true; each argument reads behind the call as it read before'; 0 by the template 'total and deterministic' (their statements: Qxb6603508aTotals.lean).
  GIVEN WITH THE SEED: the statements are not yours to turn. If you find one false, say at which input.
  Laid BY PROGRAM, IN A SANDBOX (cutbox-rows.mjs): the forced cells as the released guide's own fill.sh prints them over the translation e0756f95f16d57a8… (all of the seat's roots in one cut). By AI agents, Wed Nov 11 2026. No macro, syntax, notation, axiom, sorry.
-/
import Derived.Test.Qxb6603508aChecked
import GoSem.Claim
import GoSem.ClaimJoined
import GoSem.ClaimMapViews
import Derived.JoinedTies
import Derived.KernelRfl
namespace Go.Proofs.Qxb6603508a
/- THE CELL 'sum', in the pinned program and in every row, IS THE sha256 OF THE DUMP (.gsa) THAT Qxb6603508aProg.lean LOADS. Nothing in Lean hashes anything: it is a label: what it is worth is what the hold of that sum in a sandbox is worth. -/
noncomputable def Try.pinned : Pinned := { name := "qxb6603508a", sum := "e0756f95f16d57a843ad13f1ebeb3bd782384a9433fd57df3127f56ac50675e6", checked := Try.checked }
namespace Rows
def none {H : Type} : Left H := { results := [], args := [] }

/-- 'zzlaws_internal_raft_b1.FnClusterIDMarshalTextIsLowerHex': WHATEVER THE INPUT: true; the input reads as it did. -/
def fnClusterIDMarshalTextIsLowerHexSpec : ChangeSpec := { name := "fnClusterIDMarshalTextIsLowerHex", fn := fun _ => fun
  | [d] => { results := [.lit (.bool true)], args := [d] }
  | _ => none }
def fnClusterIDMarshalTextIsLowerHexRow : OpenClaim := { program := "qxb6603508a", sum := "e0756f95f16d57a843ad13f1ebeb3bd782384a9433fd57df3127f56ac50675e6", func := "example.com/ballast/ballast/zzlaws_internal_raft_b1.FnClusterIDMarshalTextIsLowerHex", spec := "fnClusterIDMarshalTextIsLowerHex", apart := false }
def FnClusterIDMarshalTextIsLowerHexSaid : Prop := fnClusterIDMarshalTextIsLowerHexRow.holds Try.pinned (OpenSpec.ofChange fnClusterIDMarshalTextIsLowerHexSpec)

/-- ITS FALSE NEIGHBOUR: 'it returns false'. Refute it at one input. -/
def fnClusterIDMarshalTextIsLowerHexWrong : ChangeSpec := { name := "fnClusterIDMarshalTextIsLowerHex", fn := fun _ => fun
  | [d] => { results := [.lit (.bool false)], args := [d] }
  | _ => none }
def FnClusterIDMarshalTextIsLowerHexWrongFalsely : Prop := fnClusterIDMarshalTextIsLowerHexRow.holds Try.pinned (OpenSpec.ofChange fnClusterIDMarshalTextIsLowerHexWrong)

/-- 'zzlaws_internal_raft_b1.FnClusterIDMarshalTextDecodesBackInOrder': WHATEVER THE INPUT: true; the input reads as it did. -/
def fnClusterIDMarshalTextDecodesBackInOrderSpec : ChangeSpec := { name := "fnClusterIDMarshalTextDecodesBackInOrder", fn := fun _ => fun
  | [d1, d2] => { results := [.lit (.bool true)], args := [d1, d2] }
  | _ => none }
def fnClusterIDMarshalTextDecodesBackInOrderRow : OpenClaim := { program := "qxb6603508a", sum := "e0756f95f16d57a843ad13f1ebeb3bd782384a9433fd57df3127f56ac50675e6", func := "example.com/ballast/ballast/zzlaws_internal_raft_b1.FnClusterIDMarshalTextDecodesBackInOrder", spec := "fnClusterIDMarshalTextDecodesBackInOrder", apart := false }
def FnClusterIDMarshalTextDecodesBackInOrderSaid : Prop := fnClusterIDMarshalTextDecodesBackInOrderRow.holds Try.pinned (OpenSpec.ofChange fnClusterIDMarshalTextDecodesBackInOrderSpec)

/-- ITS FALSE NEIGHBOUR: 'it returns false'. Refute it at one input. -/
def fnClusterIDMarshalTextDecodesBackInOrderWrong : ChangeSpec := { name := "fnClusterIDMarshalTextDecodesBackInOrder", fn := fun _ => fun
  | [d1, d2] => { results := [.lit (.bool false)], args := [d1, d2] }
  | _ => none }
def FnClusterIDMarshalTextDecodesBackInOrderWrongFalsely : Prop := fnClusterIDMarshalTextDecodesBackInOrderRow.holds Try.pinned (OpenSpec.ofChange fnClusterIDMarshalTextDecodesBackInOrderWrong)

end Rows
end Go.Proofs.Qxb6603508a
