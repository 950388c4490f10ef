/-
  No cell of these rows narrows 'for every input' (looked for: loops, veiled, ifaces, maps, wideKeys, modest, calm, conditions, laid).
  DERIVED. THE GIVEN ROWS OF THIS SEAT. 4 by the template 'for every input the law returns true; each argument reads behind the call as it read before'; 0 by the template 'total and deterministic' (their statements: Qxb6603394aTotals.lean).
  GIVEN WITH THE SEED: the statements are not yours to turn. If you find one false, say at which input.
  Laid BY PROGRAM, IN A SANDBOX (cutbox-rows.mjs): the forced cells as the released guide's own fill.sh prints them over the translation c10c2eb3db1c097f… (all of the seat's roots in one cut). By AI agents, Wed Nov 11 2026. No macro, syntax, notation, axiom, sorry.
-/
import Derived.Test.Qxb6603394aChecked
import GoSem.Claim
import GoSem.ClaimJoined
import GoSem.ClaimMapViews
import Derived.JoinedTies
import Derived.KernelRfl
namespace Go.Proofs.Qxb6603394a
/- THE CELL 'sum', in the pinned program and in every row, IS THE sha256 OF THE DUMP (.gsa) THAT Qxb6603394aProg.lean LOADS. Nothing in Lean hashes anything: it is a label: what it is worth is what the hold of that sum in a sandbox is worth. -/
noncomputable def Try.pinned : Pinned := { name := "qxb6603394a", sum := "c10c2eb3db1c097f0b329d889a8e3185efb9381320f24395f3a30b2f062a53e1", checked := Try.checked }
namespace Rows
def none {H : Type} : Left H := { results := [], args := [] }

/-- 'zzlaws_internal_ignore_b1.FnMatchSetNegationFlips': WHATEVER THE INPUT: true; the input reads as it did. -/
def fnMatchSetNegationFlipsSpec : ChangeSpec := { name := "fnMatchSetNegationFlips", fn := fun _ => fun
  | [d1, d2] => { results := [.lit (.bool true)], args := [d1, d2] }
  | _ => none }
def fnMatchSetNegationFlipsRow : OpenClaim := { program := "qxb6603394a", sum := "c10c2eb3db1c097f0b329d889a8e3185efb9381320f24395f3a30b2f062a53e1", func := "example.com/tidemark/tidemark/zzlaws_internal_ignore_b1.FnMatchSetNegationFlips", spec := "fnMatchSetNegationFlips", inPlace := ["internal/bytealg.IndexByteString"], apart := false }
def FnMatchSetNegationFlipsSaid : Prop := fnMatchSetNegationFlipsRow.holds Try.pinned (OpenSpec.ofChange fnMatchSetNegationFlipsSpec)

/-- ITS FALSE NEIGHBOUR: 'it returns false'. Refute it at one input. -/
def fnMatchSetNegationFlipsWrong : ChangeSpec := { name := "fnMatchSetNegationFlips", fn := fun _ => fun
  | [d1, d2] => { results := [.lit (.bool false)], args := [d1, d2] }
  | _ => none }
def FnMatchSetNegationFlipsWrongFalsely : Prop := fnMatchSetNegationFlipsRow.holds Try.pinned (OpenSpec.ofChange fnMatchSetNegationFlipsWrong)

/-- 'zzlaws_internal_ignore_b1.FnMatchSetExtentIgnoresByteAndTail': WHATEVER THE INPUT: true; the input reads as it did. -/
def fnMatchSetExtentIgnoresByteAndTailSpec : ChangeSpec := { name := "fnMatchSetExtentIgnoresByteAndTail", fn := fun _ => fun
  | [d1, d2, d3, d4] => { results := [.lit (.bool true)], args := [d1, d2, d3, d4] }
  | _ => none }
def fnMatchSetExtentIgnoresByteAndTailRow : OpenClaim := { program := "qxb6603394a", sum := "c10c2eb3db1c097f0b329d889a8e3185efb9381320f24395f3a30b2f062a53e1", func := "example.com/tidemark/tidemark/zzlaws_internal_ignore_b1.FnMatchSetExtentIgnoresByteAndTail", spec := "fnMatchSetExtentIgnoresByteAndTail", inPlace := ["internal/bytealg.IndexByteString"], apart := false }
def FnMatchSetExtentIgnoresByteAndTailSaid : Prop := fnMatchSetExtentIgnoresByteAndTailRow.holds Try.pinned (OpenSpec.ofChange fnMatchSetExtentIgnoresByteAndTailSpec)

/-- ITS FALSE NEIGHBOUR: 'it returns false'. Refute it at one input. -/
def fnMatchSetExtentIgnoresByteAndTailWrong : ChangeSpec := { name := "fnMatchSetExtentIgnoresByteAndTail", fn := fun _ => fun
  | [d1, d2, d3, d4] => { results := [.lit (.bool false)], args := [d1, d2, d3, d4] }
  | _ => none }
def FnMatchSetExtentIgnoresByteAndTailWrongFalsely : Prop := fnMatchSetExtentIgnoresByteAndTailRow.holds Try.pinned (OpenSpec.ofChange fnMatchSetExtentIgnoresByteAndTailWrong)

/-- 'zzlaws_internal_ignore_b1.FnInClassAgreesWithMemberLists': WHATEVER THE INPUT: true; the input reads as it did. -/
def fnInClassAgreesWithMemberListsSpec : ChangeSpec := { name := "fnInClassAgreesWithMemberLists", fn := fun _ => fun
  | [d1, d2] => { results := [.lit (.bool true)], args := [d1, d2] }
  | _ => none }
def fnInClassAgreesWithMemberListsRow : OpenClaim := { program := "qxb6603394a", sum := "c10c2eb3db1c097f0b329d889a8e3185efb9381320f24395f3a30b2f062a53e1", func := "example.com/tidemark/tidemark/zzlaws_internal_ignore_b1.FnInClassAgreesWithMemberLists", spec := "fnInClassAgreesWithMemberLists", apart := false }
def FnInClassAgreesWithMemberListsSaid : Prop := fnInClassAgreesWithMemberListsRow.holds Try.pinned (OpenSpec.ofChange fnInClassAgreesWithMemberListsSpec)

/-- ITS FALSE NEIGHBOUR: 'it returns false'. Refute it at one input. -/
def fnInClassAgreesWithMemberListsWrong : ChangeSpec := { name := "fnInClassAgreesWithMemberLists", fn := fun _ => fun
  | [d1, d2] => { results := [.lit (.bool false)], args := [d1, d2] }
  | _ => none }
def FnInClassAgreesWithMemberListsWrongFalsely : Prop := fnInClassAgreesWithMemberListsRow.holds Try.pinned (OpenSpec.ofChange fnInClassAgreesWithMemberListsWrong)

/-- 'zzlaws_internal_ignore_b1.FnInClassLattice': WHATEVER THE INPUT: true; the input reads as it did. -/
def fnInClassLatticeSpec : ChangeSpec := { name := "fnInClassLattice", fn := fun _ => fun
  | [d] => { results := [.lit (.bool true)], args := [d] }
  | _ => none }
def fnInClassLatticeRow : OpenClaim := { program := "qxb6603394a", sum := "c10c2eb3db1c097f0b329d889a8e3185efb9381320f24395f3a30b2f062a53e1", func := "example.com/tidemark/tidemark/zzlaws_internal_ignore_b1.FnInClassLattice", spec := "fnInClassLattice", apart := false }
def FnInClassLatticeSaid : Prop := fnInClassLatticeRow.holds Try.pinned (OpenSpec.ofChange fnInClassLatticeSpec)

/-- ITS FALSE NEIGHBOUR: 'it returns false'. Refute it at one input. -/
def fnInClassLatticeWrong : ChangeSpec := { name := "fnInClassLattice", fn := fun _ => fun
  | [d] => { results := [.lit (.bool false)], args := [d] }
  | _ => none }
def FnInClassLatticeWrongFalsely : Prop := fnInClassLatticeRow.holds Try.pinned (OpenSpec.ofChange fnInClassLatticeWrong)

end Rows
end Go.Proofs.Qxb6603394a
