/-
  No cell of these rows narrows 'for every input' (looked for: loops, veiled, ifaces, maps, wideKeys, modest, calm, conditions, laid).
  DERIVED. THE GIVEN ROWS OF THIS SEAT. 2 by the template 'for every input the law returns true; each argument reads behind the call as it read before'; 0 by the template 'total and deterministic' (their statements: Qxb6603785aTotals.lean).
  GIVEN WITH THE SEED: the statements are not yours to turn. If you find one false, say at which input.
  Laid BY PROGRAM, IN A SANDBOX (cutbox-rows.mjs): the forced cells as the released guide's own fill.sh prints them over the translation 9e17362acfe68674… (all of the seat's roots in one cut). By AI agents, Wed Nov 11 2026. No macro, syntax, notation, axiom, sorry.
-/
import Derived.Test.Qxb6603785aChecked
import GoSem.Claim
import GoSem.ClaimJoined
import GoSem.ClaimMapViews
import Derived.JoinedTies
import Derived.KernelRfl
namespace Go.Proofs.Qxb6603785a
/- THE CELL 'sum', in the pinned program and in every row, IS THE sha256 OF THE DUMP (.gsa) THAT Qxb6603785aProg.lean LOADS. Nothing in Lean hashes anything: it is a label: what it is worth is what the hold of that sum in a sandbox is worth. -/
noncomputable def Try.pinned : Pinned := { name := "qxb6603785a", sum := "9e17362acfe68674253292d594b05709ab34f2ba8d8b6bf03716562e038daaa7", checked := Try.checked }
namespace Rows
def none {H : Type} : Left H := { results := [], args := [] }

/-- 'zzlaws_pkg_version_b1.FnCompareIntsMatchesBiasedUnsignedOrder': WHATEVER THE INPUT: true; the input reads as it did. -/
def fnCompareIntsMatchesBiasedUnsignedOrderSpec : ChangeSpec := { name := "fnCompareIntsMatchesBiasedUnsignedOrder", fn := fun _ => fun
  | [d1, d2] => { results := [.lit (.bool true)], args := [d1, d2] }
  | _ => none }
def fnCompareIntsMatchesBiasedUnsignedOrderRow : OpenClaim := { program := "qxb6603785a", sum := "9e17362acfe68674253292d594b05709ab34f2ba8d8b6bf03716562e038daaa7", func := "example.com/stackshelf/stackshelf/zzlaws_pkg_version_b1.FnCompareIntsMatchesBiasedUnsignedOrder", spec := "fnCompareIntsMatchesBiasedUnsignedOrder", apart := false }
def FnCompareIntsMatchesBiasedUnsignedOrderSaid : Prop := fnCompareIntsMatchesBiasedUnsignedOrderRow.holds Try.pinned (OpenSpec.ofChange fnCompareIntsMatchesBiasedUnsignedOrderSpec)

/-- ITS FALSE NEIGHBOUR: 'it returns false'. Refute it at one input. -/
def fnCompareIntsMatchesBiasedUnsignedOrderWrong : ChangeSpec := { name := "fnCompareIntsMatchesBiasedUnsignedOrder", fn := fun _ => fun
  | [d1, d2] => { results := [.lit (.bool false)], args := [d1, d2] }
  | _ => none }
def FnCompareIntsMatchesBiasedUnsignedOrderWrongFalsely : Prop := fnCompareIntsMatchesBiasedUnsignedOrderRow.holds Try.pinned (OpenSpec.ofChange fnCompareIntsMatchesBiasedUnsignedOrderWrong)

/-- 'zzlaws_pkg_version_b1.FnCompareIntsIsTotalOrder': WHATEVER THE INPUT: true; the input reads as it did. -/
def fnCompareIntsIsTotalOrderSpec : ChangeSpec := { name := "fnCompareIntsIsTotalOrder", fn := fun _ => fun
  | [d1, d2, d3] => { results := [.lit (.bool true)], args := [d1, d2, d3] }
  | _ => none }
def fnCompareIntsIsTotalOrderRow : OpenClaim := { program := "qxb6603785a", sum := "9e17362acfe68674253292d594b05709ab34f2ba8d8b6bf03716562e038daaa7", func := "example.com/stackshelf/stackshelf/zzlaws_pkg_version_b1.FnCompareIntsIsTotalOrder", spec := "fnCompareIntsIsTotalOrder", apart := false }
def FnCompareIntsIsTotalOrderSaid : Prop := fnCompareIntsIsTotalOrderRow.holds Try.pinned (OpenSpec.ofChange fnCompareIntsIsTotalOrderSpec)

/-- ITS FALSE NEIGHBOUR: 'it returns false'. Refute it at one input. -/
def fnCompareIntsIsTotalOrderWrong : ChangeSpec := { name := "fnCompareIntsIsTotalOrder", fn := fun _ => fun
  | [d1, d2, d3] => { results := [.lit (.bool false)], args := [d1, d2, d3] }
  | _ => none }
def FnCompareIntsIsTotalOrderWrongFalsely : Prop := fnCompareIntsIsTotalOrderRow.holds Try.pinned (OpenSpec.ofChange fnCompareIntsIsTotalOrderWrong)

end Rows
end Go.Proofs.Qxb6603785a
