/-
  No cell of these rows narrows 'for every input' (looked for: loops, veiled, ifaces, maps, wideKeys, modest, calm, conditions, laid).
  DERIVED. THE GIVEN ROWS OF THIS SEAT. 5 by the template 'for every input the law returns true; each argument reads behind the call as it read before'; 0 by the template 'total and deterministic' (their statements: Qxb6603395aTotals.lean).
  GIVEN WITH THE SEED: the statements are not yours to turn. If you find one false, say at which input.
  Laid BY PROGRAM, IN A SANDBOX (cutbox-rows.mjs): the forced cells as the released guide's own fill.sh prints them over the translation 98fab11e3a83f413… (all of the seat's roots in one cut). By AI agents, Wed Nov 11 2026. No macro, syntax, notation, axiom, sorry.
-/
import Derived.Test.Qxb6603395aChecked
import GoSem.Claim
import GoSem.ClaimJoined
import GoSem.ClaimMapViews
import Derived.JoinedTies
import Derived.KernelRfl
namespace Go.Proofs.Qxb6603395a
/- THE CELL 'sum', in the pinned program and in every row, IS THE sha256 OF THE DUMP (.gsa) THAT Qxb6603395aProg.lean LOADS. Nothing in Lean hashes anything: it is a label: what it is worth is what the hold of that sum in a sandbox is worth. -/
noncomputable def Try.pinned : Pinned := { name := "qxb6603395a", sum := "98fab11e3a83f413a662902c990777ede47cdec7b6beaa543fc8f22f0a89f2db", checked := Try.checked }
namespace Rows
def none {H : Type} : Left H := { results := [], args := [] }

/-- 'zzlaws_manifest_b1.FnIsJSONNumberMatchesAutomaton': WHATEVER THE INPUT: true; the input reads as it did. -/
def fnIsJSONNumberMatchesAutomatonSpec : ChangeSpec := { name := "fnIsJSONNumberMatchesAutomaton", fn := fun _ => fun
  | [d] => { results := [.lit (.bool true)], args := [d] }
  | _ => none }
def fnIsJSONNumberMatchesAutomatonRow : OpenClaim := { program := "qxb6603395a", sum := "98fab11e3a83f413a662902c990777ede47cdec7b6beaa543fc8f22f0a89f2db", func := "example.com/hearthwarden/hearthwarden/zzlaws_manifest_b1.FnIsJSONNumberMatchesAutomaton", spec := "fnIsJSONNumberMatchesAutomaton", apart := false }
def FnIsJSONNumberMatchesAutomatonSaid : Prop := fnIsJSONNumberMatchesAutomatonRow.holds Try.pinned (OpenSpec.ofChange fnIsJSONNumberMatchesAutomatonSpec)

/-- ITS FALSE NEIGHBOUR: 'it returns false'. Refute it at one input. -/
def fnIsJSONNumberMatchesAutomatonWrong : ChangeSpec := { name := "fnIsJSONNumberMatchesAutomaton", fn := fun _ => fun
  | [d] => { results := [.lit (.bool false)], args := [d] }
  | _ => none }
def FnIsJSONNumberMatchesAutomatonWrongFalsely : Prop := fnIsJSONNumberMatchesAutomatonRow.holds Try.pinned (OpenSpec.ofChange fnIsJSONNumberMatchesAutomatonWrong)

/-- 'zzlaws_manifest_b1.FnIsJSONNumberMinus': WHATEVER THE INPUT: true; the input reads as it did. -/
def fnIsJSONNumberMinusSpec : ChangeSpec := { name := "fnIsJSONNumberMinus", fn := fun _ => fun
  | [d] => { results := [.lit (.bool true)], args := [d] }
  | _ => none }
def fnIsJSONNumberMinusRow : OpenClaim := { program := "qxb6603395a", sum := "98fab11e3a83f413a662902c990777ede47cdec7b6beaa543fc8f22f0a89f2db", func := "example.com/hearthwarden/hearthwarden/zzlaws_manifest_b1.FnIsJSONNumberMinus", spec := "fnIsJSONNumberMinus", apart := false }
def FnIsJSONNumberMinusSaid : Prop := fnIsJSONNumberMinusRow.holds Try.pinned (OpenSpec.ofChange fnIsJSONNumberMinusSpec)

/-- ITS FALSE NEIGHBOUR: 'it returns false'. Refute it at one input. -/
def fnIsJSONNumberMinusWrong : ChangeSpec := { name := "fnIsJSONNumberMinus", fn := fun _ => fun
  | [d] => { results := [.lit (.bool false)], args := [d] }
  | _ => none }
def FnIsJSONNumberMinusWrongFalsely : Prop := fnIsJSONNumberMinusRow.holds Try.pinned (OpenSpec.ofChange fnIsJSONNumberMinusWrong)

/-- 'zzlaws_manifest_b1.FnIsJSONNumberShape': WHATEVER THE INPUT: true; the input reads as it did. -/
def fnIsJSONNumberShapeSpec : ChangeSpec := { name := "fnIsJSONNumberShape", fn := fun _ => fun
  | [d] => { results := [.lit (.bool true)], args := [d] }
  | _ => none }
def fnIsJSONNumberShapeRow : OpenClaim := { program := "qxb6603395a", sum := "98fab11e3a83f413a662902c990777ede47cdec7b6beaa543fc8f22f0a89f2db", func := "example.com/hearthwarden/hearthwarden/zzlaws_manifest_b1.FnIsJSONNumberShape", spec := "fnIsJSONNumberShape", apart := false }
def FnIsJSONNumberShapeSaid : Prop := fnIsJSONNumberShapeRow.holds Try.pinned (OpenSpec.ofChange fnIsJSONNumberShapeSpec)

/-- ITS FALSE NEIGHBOUR: 'it returns false'. Refute it at one input. -/
def fnIsJSONNumberShapeWrong : ChangeSpec := { name := "fnIsJSONNumberShape", fn := fun _ => fun
  | [d] => { results := [.lit (.bool false)], args := [d] }
  | _ => none }
def FnIsJSONNumberShapeWrongFalsely : Prop := fnIsJSONNumberShapeRow.holds Try.pinned (OpenSpec.ofChange fnIsJSONNumberShapeWrong)

/-- 'zzlaws_manifest_b1.FnLeadingDigitsSpec': WHATEVER THE INPUT: true; the input reads as it did. -/
def fnLeadingDigitsSpecSpec : ChangeSpec := { name := "fnLeadingDigitsSpec", fn := fun _ => fun
  | [d] => { results := [.lit (.bool true)], args := [d] }
  | _ => none }
def fnLeadingDigitsSpecRow : OpenClaim := { program := "qxb6603395a", sum := "98fab11e3a83f413a662902c990777ede47cdec7b6beaa543fc8f22f0a89f2db", func := "example.com/hearthwarden/hearthwarden/zzlaws_manifest_b1.FnLeadingDigitsSpec", spec := "fnLeadingDigitsSpec", apart := false }
def FnLeadingDigitsSpecSaid : Prop := fnLeadingDigitsSpecRow.holds Try.pinned (OpenSpec.ofChange fnLeadingDigitsSpecSpec)

/-- ITS FALSE NEIGHBOUR: 'it returns false'. Refute it at one input. -/
def fnLeadingDigitsSpecWrong : ChangeSpec := { name := "fnLeadingDigitsSpec", fn := fun _ => fun
  | [d] => { results := [.lit (.bool false)], args := [d] }
  | _ => none }
def FnLeadingDigitsSpecWrongFalsely : Prop := fnLeadingDigitsSpecRow.holds Try.pinned (OpenSpec.ofChange fnLeadingDigitsSpecWrong)

/-- 'zzlaws_manifest_b1.FnLeadingDigitsConcat': WHATEVER THE INPUT: true; the input reads as it did. -/
def fnLeadingDigitsConcatSpec : ChangeSpec := { name := "fnLeadingDigitsConcat", fn := fun _ => fun
  | [d1, d2] => { results := [.lit (.bool true)], args := [d1, d2] }
  | _ => none }
def fnLeadingDigitsConcatRow : OpenClaim := { program := "qxb6603395a", sum := "98fab11e3a83f413a662902c990777ede47cdec7b6beaa543fc8f22f0a89f2db", func := "example.com/hearthwarden/hearthwarden/zzlaws_manifest_b1.FnLeadingDigitsConcat", spec := "fnLeadingDigitsConcat", apart := false }
def FnLeadingDigitsConcatSaid : Prop := fnLeadingDigitsConcatRow.holds Try.pinned (OpenSpec.ofChange fnLeadingDigitsConcatSpec)

/-- ITS FALSE NEIGHBOUR: 'it returns false'. Refute it at one input. -/
def fnLeadingDigitsConcatWrong : ChangeSpec := { name := "fnLeadingDigitsConcat", fn := fun _ => fun
  | [d1, d2] => { results := [.lit (.bool false)], args := [d1, d2] }
  | _ => none }
def FnLeadingDigitsConcatWrongFalsely : Prop := fnLeadingDigitsConcatRow.holds Try.pinned (OpenSpec.ofChange fnLeadingDigitsConcatWrong)

end Rows
end Go.Proofs.Qxb6603395a
