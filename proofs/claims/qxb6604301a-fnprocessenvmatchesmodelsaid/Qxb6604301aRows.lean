/-
  No cell of these rows narrows 'for every input' (looked for: loops, veiled, ifaces, maps, wideKeys, modest, calm, conditions, laid).
  DERIVED. THE GIVEN ROWS OF THIS SEAT. 3 by the template 'for every input the law returns true; each argument reads behind the call as it read before'; 0 by the template 'total and deterministic' (their statements: Qxb6604301aTotals.lean).
  GIVEN WITH THE SEED: the statements are not yours to turn. If you find one false, say at which input.
  Laid BY PROGRAM, IN A SANDBOX (cutbox-rows.mjs): the forced cells as the released guide's own fill.sh prints them over the translation d0c9acd0b96240b9… (all of the seat's roots in one cut). By AI agents, Wed Nov 11 2026. No macro, syntax, notation, axiom, sorry.
-/
import Derived.Test.Qxb6604301aChecked
import GoSem.Claim
import GoSem.ClaimJoined
import GoSem.ClaimMapViews
import Derived.JoinedTies
import Derived.KernelRfl
namespace Go.Proofs.Qxb6604301a
/- THE CELL 'sum', in the pinned program and in every row, IS THE sha256 OF THE DUMP (.gsa) THAT Qxb6604301aProg.lean LOADS. Nothing in Lean hashes anything: it is a label: what it is worth is what the hold of that sum in a sandbox is worth. -/
noncomputable def Try.pinned : Pinned := { name := "qxb6604301a", sum := "d0c9acd0b96240b9e3151aa33c93913fd98c78bc15cf4babcacf367c5d5e2f1c", checked := Try.checked }
namespace Rows
def none {H : Type} : Left H := { results := [], args := [] }

/-- 'zzlaws_agent_b1.FnUnquoteMatchesShellModel': WHATEVER THE INPUT: true; the input reads as it did. -/
def fnUnquoteMatchesShellModelSpec : ChangeSpec := { name := "fnUnquoteMatchesShellModel", fn := fun _ => fun
  | [d] => { results := [.lit (.bool true)], args := [d] }
  | _ => none }
def fnUnquoteMatchesShellModelRow : OpenClaim := { program := "qxb6604301a", sum := "d0c9acd0b96240b9e3151aa33c93913fd98c78bc15cf4babcacf367c5d5e2f1c", func := "example.com/moorings/moorings/zzlaws_agent_b1.FnUnquoteMatchesShellModel", spec := "fnUnquoteMatchesShellModel", inPlace := ["internal/bytealg.IndexByteString", "internal/abi.NoEscape"], apart := false }
def FnUnquoteMatchesShellModelSaid : Prop := fnUnquoteMatchesShellModelRow.holds Try.pinned (OpenSpec.ofChange fnUnquoteMatchesShellModelSpec)

/-- ITS FALSE NEIGHBOUR: 'it returns false'. Refute it at one input. -/
def fnUnquoteMatchesShellModelWrong : ChangeSpec := { name := "fnUnquoteMatchesShellModel", fn := fun _ => fun
  | [d] => { results := [.lit (.bool false)], args := [d] }
  | _ => none }
def FnUnquoteMatchesShellModelWrongFalsely : Prop := fnUnquoteMatchesShellModelRow.holds Try.pinned (OpenSpec.ofChange fnUnquoteMatchesShellModelWrong)

/-- 'zzlaws_agent_b1.FnUnquoteInvertsQuoting': WHATEVER THE INPUT: true; the input reads as it did. -/
def fnUnquoteInvertsQuotingSpec : ChangeSpec := { name := "fnUnquoteInvertsQuoting", fn := fun _ => fun
  | [d] => { results := [.lit (.bool true)], args := [d] }
  | _ => none }
def fnUnquoteInvertsQuotingRow : OpenClaim := { program := "qxb6604301a", sum := "d0c9acd0b96240b9e3151aa33c93913fd98c78bc15cf4babcacf367c5d5e2f1c", func := "example.com/moorings/moorings/zzlaws_agent_b1.FnUnquoteInvertsQuoting", spec := "fnUnquoteInvertsQuoting", inPlace := ["internal/bytealg.IndexByteString", "internal/abi.NoEscape"], apart := false }
def FnUnquoteInvertsQuotingSaid : Prop := fnUnquoteInvertsQuotingRow.holds Try.pinned (OpenSpec.ofChange fnUnquoteInvertsQuotingSpec)

/-- ITS FALSE NEIGHBOUR: 'it returns false'. Refute it at one input. -/
def fnUnquoteInvertsQuotingWrong : ChangeSpec := { name := "fnUnquoteInvertsQuoting", fn := fun _ => fun
  | [d] => { results := [.lit (.bool false)], args := [d] }
  | _ => none }
def FnUnquoteInvertsQuotingWrongFalsely : Prop := fnUnquoteInvertsQuotingRow.holds Try.pinned (OpenSpec.ofChange fnUnquoteInvertsQuotingWrong)

/-- 'zzlaws_agent_b1.FnProcessEnvMatchesModel': WHATEVER THE INPUT: true; the input reads as it did. -/
def fnProcessEnvMatchesModelSpec : ChangeSpec := { name := "fnProcessEnvMatchesModel", fn := fun _ => fun
  | [d] => { results := [.lit (.bool true)], args := [d] }
  | _ => none }
def fnProcessEnvMatchesModelRow : OpenClaim := { program := "qxb6604301a", sum := "d0c9acd0b96240b9e3151aa33c93913fd98c78bc15cf4babcacf367c5d5e2f1c", func := "example.com/moorings/moorings/zzlaws_agent_b1.FnProcessEnvMatchesModel", spec := "fnProcessEnvMatchesModel", apart := false }
def FnProcessEnvMatchesModelSaid : Prop := fnProcessEnvMatchesModelRow.holds Try.pinned (OpenSpec.ofChange fnProcessEnvMatchesModelSpec)

/-- ITS FALSE NEIGHBOUR: 'it returns false'. Refute it at one input. -/
def fnProcessEnvMatchesModelWrong : ChangeSpec := { name := "fnProcessEnvMatchesModel", fn := fun _ => fun
  | [d] => { results := [.lit (.bool false)], args := [d] }
  | _ => none }
def FnProcessEnvMatchesModelWrongFalsely : Prop := fnProcessEnvMatchesModelRow.holds Try.pinned (OpenSpec.ofChange fnProcessEnvMatchesModelWrong)

end Rows
end Go.Proofs.Qxb6604301a
