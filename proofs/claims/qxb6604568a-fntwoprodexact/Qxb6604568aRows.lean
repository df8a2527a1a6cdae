/-
  No cell of these rows narrows 'for every input' (looked for: loops, veiled, ifaces, maps, wideKeys, modest, calm, conditions, laid).
  DERIVED. THE GIVEN ROWS OF THIS SEAT. 1 by the template 'for every input the law returns true; each argument reads behind the call as it read before'; 0 by the template 'total and deterministic' (their statements: Qxb6604568aTotals.lean).
  GIVEN WITH THE SEED: the statements are not yours to turn. If you find one false, say at which input.
  Laid BY PROGRAM, IN A SANDBOX (cutbox-rows.mjs): the forced cells as the released guide's own fill.sh prints them over the translation 1faa2dcfac8bf9d5… (all of the seat's roots in one cut). By AI agents, Wed Nov 11 2026. No macro, syntax, notation, axiom, sorry.
-/
import Derived.Test.Qxb6604568aChecked
import GoSem.Claim
import GoSem.ClaimJoined
import GoSem.ClaimMapViews
import Derived.JoinedTies
import Derived.KernelRfl
namespace Go.Proofs.Qxb6604568a
/- THE CELL 'sum', in the pinned program and in every row, IS THE sha256 OF THE DUMP (.gsa) THAT Qxb6604568aProg.lean LOADS. Nothing in Lean hashes anything: it is a label: what it is worth is what the hold of that sum in a sandbox is worth. -/
noncomputable def Try.pinned : Pinned := { name := "qxb6604568a", sum := "1faa2dcfac8bf9d5b4ffdca8862489ac04beb39c5ea2a2d5d0e5cbe223e1f613", checked := Try.checked }
namespace Rows
def none {H : Type} : Left H := { results := [], args := [] }

/-- 'zzlaws_root_b1.FnTwoProdExact': WHATEVER THE INPUT: true; the input reads as it did. -/
def fnTwoProdExactSpec : ChangeSpec := { name := "fnTwoProdExact", fn := fun _ => fun
  | [d1, d2] => { results := [.lit (.bool true)], args := [d1, d2] }
  | _ => none }
def fnTwoProdExactRow : OpenClaim := { program := "qxb6604568a", sum := "1faa2dcfac8bf9d5b4ffdca8862489ac04beb39c5ea2a2d5d0e5cbe223e1f613", func := "example.com/fixity/fixity/zzlaws_root_b1.FnTwoProdExact", spec := "fnTwoProdExact", inPlace := ["math.FMA"], apart := false }
def FnTwoProdExactSaid : Prop := fnTwoProdExactRow.holds Try.pinned (OpenSpec.ofChange fnTwoProdExactSpec)

/-- ITS FALSE NEIGHBOUR: 'it returns false'. Refute it at one input. -/
def fnTwoProdExactWrong : ChangeSpec := { name := "fnTwoProdExact", fn := fun _ => fun
  | [d1, d2] => { results := [.lit (.bool false)], args := [d1, d2] }
  | _ => none }
def FnTwoProdExactWrongFalsely : Prop := fnTwoProdExactRow.holds Try.pinned (OpenSpec.ofChange fnTwoProdExactWrong)

end Rows
end Go.Proofs.Qxb6604568a
