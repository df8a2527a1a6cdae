/-
  No cell of these rows narrows 'for every input' (looked for: loops, veiled, ifaces, maps, wideKeys, modest, calm, conditions, laid).
  DERIVED. THE GIVEN ROWS OF THIS SEAT. 1 by the template 'for every input the law returns true; each argument reads behind the call as it read before'; 0 by the template 'total and deterministic' (their statements: Qxb6604347aTotals.lean).
  GIVEN WITH THE SEED: the statements are not yours to turn. If you find one false, say at which input.
  Laid BY PROGRAM, IN A SANDBOX (cutbox-rows.mjs): the forced cells as the released guide's own fill.sh prints them over the translation 9ffb7afd05e29c4b… (all of the seat's roots in one cut). By AI agents, Wed Nov 11 2026. No macro, syntax, notation, axiom, sorry.
-/
import Derived.Test.Qxb6604347aChecked
import GoSem.Claim
import GoSem.ClaimJoined
import GoSem.ClaimMapViews
import Derived.JoinedTies
import Derived.KernelRfl
namespace Go.Proofs.Qxb6604347a
/- THE CELL 'sum', in the pinned program and in every row, IS THE sha256 OF THE DUMP (.gsa) THAT Qxb6604347aProg.lean LOADS. Nothing in Lean hashes anything: it is a label: what it is worth is what the hold of that sum in a sandbox is worth. -/
noncomputable def Try.pinned : Pinned := { name := "qxb6604347a", sum := "9ffb7afd05e29c4ba100b946ed13b304951bc53c087d07cc137909c4310ec320", checked := Try.checked }
namespace Rows
def none {H : Type} : Left H := { results := [], args := [] }

/-- 'zzlaws_internal_store_b1.FnMemberListStringParsesBack': WHATEVER THE INPUT: true; the input reads as it did. -/
def fnMemberListStringParsesBackSpec : ChangeSpec := { name := "fnMemberListStringParsesBack", fn := fun _ => fun
  | [d1, d2, d3] => { results := [.lit (.bool true)], args := [d1, d2, d3] }
  | _ => none }
def fnMemberListStringParsesBackRow : OpenClaim := { program := "qxb6604347a", sum := "9ffb7afd05e29c4ba100b946ed13b304951bc53c087d07cc137909c4310ec320", func := "example.com/tidewater/tidewater/zzlaws_internal_store_b1.FnMemberListStringParsesBack", spec := "fnMemberListStringParsesBack", inPlace := ["internal/abi.NoEscape", "internal/bytealg.MakeNoZero"], apart := false }
def FnMemberListStringParsesBackSaid : Prop := fnMemberListStringParsesBackRow.holds Try.pinned (OpenSpec.ofChange fnMemberListStringParsesBackSpec)

/-- ITS FALSE NEIGHBOUR: 'it returns false'. Refute it at one input. -/
def fnMemberListStringParsesBackWrong : ChangeSpec := { name := "fnMemberListStringParsesBack", fn := fun _ => fun
  | [d1, d2, d3] => { results := [.lit (.bool false)], args := [d1, d2, d3] }
  | _ => none }
def FnMemberListStringParsesBackWrongFalsely : Prop := fnMemberListStringParsesBackRow.holds Try.pinned (OpenSpec.ofChange fnMemberListStringParsesBackWrong)

end Rows
end Go.Proofs.Qxb6604347a
