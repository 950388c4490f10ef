/- The law FnProcessEnvMatchesModel: the row round the walk, after the guide's frame for a law over slices. -/
import Derived.Test.Qxb6604301aRows
import Derived.WalkKit
import Derived.ProofKit
import Derived.OpenShut
import Derived.ShutString
import Derived.ChangeOld
import Derived.Below
import Derived.Deep.SlicePairs
import Derived.Test.Qxb6604301aLaw
namespace Go.Proofs.Qxb6604301a.fnProcessEnvMatchesModel
open Go.ChangeShapes Go.WideShapes Go.ChangeAt Go.RowKit
open Go.Proofs.Qxb6604301a.walks
set_option linter.unusedVariables false

theorem own : ownKnob Try.prog.godebug = none := by kernel_rfl
theorem laidOut : laidOutB Try.prog = true := by kernel_rfl
theorem cells37 : Try.prog.cellsOf 37 = 2 := by kernel_rfl
theorem cells9 : Try.prog.cellsOf 9 = 1 := by kernel_rfl

def strOf : Value → ByteArray
  | .string s => s
  | _ => ByteArray.empty

/-- What the walk is told of the slice that came in. -/
theorem came_of {H : Type} {enc : TypeId × Value → H} {W : World} {fuel : Nat} {a : Option Addr} {len cap : Nat} {x : DataW H × List MemPlace}
    (hf : DataW.trod enc Try.prog W 0 (fun _ => true) true fuel 24 [.slice a len cap] = some x) :
    ∃ N V, len ≤ 9223372036854775807 ∧ (a = none → len = 0 ∧ cap = 0) ∧ Came a len N V W := by
  rcases Deep.open_slice_pairs Try.underlying24 Try.underlying37 cells37 rfl rfl cells9 cells9 hf with ⟨hcs, _⟩ | ⟨ad, l, c, m, n, V0, V1, D0, D1, P0, P1, hcs, _, hl, hm, hmm, _, hcell⟩
  · simp at hcs
    obtain ⟨rfl, rfl, rfl⟩ := hcs
    exact ⟨fun _ => ByteArray.empty, fun _ => ByteArray.empty, by omega, fun _ => ⟨rfl, rfl⟩, fun h => absurd h (Nat.lt_irrefl _)⟩
  · simp at hcs
    obtain ⟨rfl, rfl, rfl⟩ := hcs
    have hmc : m = cap := by simpa using hmm
    subst hmc
    refine ⟨fun i => strOf (V0 i), fun i => strOf (V1 i), by unfold maxLen at hm; omega, (fun h => by cases h), fun h0 => ?_⟩
    obtain ⟨b, off, spot⟩ := ad
    have hspot : spot = none := by simpa [Addr.add] using World.cell?_spot (hcell 0 (by omega)).1
    subst hspot
    have hblk : b < W.heap.size := by
      have h := World.block_lt_of_cell? W _ (hcell 0 (by omega)).1
      simpa [Addr.add] using h
    refine ⟨b, off, rfl, hblk, fun j hj => ?_⟩
    obtain ⟨c0, c1, t0, t1⟩ := hcell j (by omega)
    obtain ⟨s0, e0, _⟩ := DataW.trod_string Try.underlying9 t0
    obtain ⟨s1, e1, _⟩ := DataW.trod_string Try.underlying9 t1
    simp at e0 e1
    rw [add_plain] at c0 c1
    refine ⟨?_, ?_⟩
    · show W.cell? ⟨b, off + j * 2, none⟩ = some (.string (strOf (V0 j)))
      rw [c0, e0]; rfl
    · show W.cell? ⟨b, off + j * 2 + 1, none⟩ = some (.string (strOf (V1 j)))
      rw [Nat.add_assoc, c1, e1]; rfl

set_option maxRecDepth 100000 in
theorem lifted (os : Os) (started : os.Started) (H : Type) (enc : TypeId × Value → H) :
    ReturnsInHanded {} Try.checked os 5 .any (Rows.fnProcessEnvMatchesModelSpec.pre6 enc Try.prog Try.f5 Rows.fnProcessEnvMatchesModelRow.domain false) (Rows.fnProcessEnvMatchesModelSpec.post enc Try.prog Try.f5 false true false false) := by
  refine returnsInHanded_of_change (C := Try.checked) own started (by kernel_rfl) Try.func5
    (ChangeSpec.witness6 (enc := enc) (C := Try.checked) false ⟨#[], #[.slice none 0 0], []⟩ 8 (by kernel_rfl) (by kernel_rfl) (by kernel_rfl) (by kernel_rfl)) ?_
  intro W base args ds gs before hval0 hW hcnd _
  have hval : ∀ (j : Nat) t v, Try.f5.params[j]? = some t → args[j]? = some v → Value.okWide Try.prog W .any base t v := hval0
  have hW' := hW
  obtain ⟨p, q, hA0, hV, rfl, hfz, hnd⟩ := hW
  have hA : DataW.TrodAll enc Try.prog W 0 (fun _ => true) true Try.f5.params.toList args.toList ds p := hA0
  rw [Try.params5] at hA hval
  obtain ⟨v0, vs0, d0, ds0, p0, q0, hargs, rfl, rfl, h0, r0⟩ := trodAll_cons hA
  obtain ⟨rfl, rfl, rfl⟩ := trodAll_nil r0
  obtain rfl : args = #[v0] := by cases args; simp_all
  obtain ⟨rfl, rfl⟩ := trodVars_none hV
  obtain ⟨a0, len0, cap0, rfl⟩ := okWide_slice Try.underlying24 (hval 0 24 v0 rfl rfl)
  have k0 := h0
  have lt0 : ∀ x ∈ p0, x.block < W.heap.size := by obtain ⟨m, hm⟩ := k0; exact DataW.trod_lt m _ _ _ hm
  obtain ⟨N, V, hl, hn, hc⟩ : ∃ N V, len0 ≤ 9223372036854775807 ∧ (a0 = none → len0 = 0 ∧ cap0 = 0) ∧ Came a0 len0 N V W := by
    obtain ⟨fuel, hf⟩ := h0
    exact came_of (by simpa [Value.cells] using hf)
  clear hA0 hval0
  refine (law_any a0 len0 cap0 N V W hl hn hc).mono fun e W' ⟨he, bel⟩ => ?_
  subst he
  exact ⟨_, rfl, _, _, _, [], _, [], hW', trodAll_mk1 (shut_bool Try.underlying4 _), (trodAll_cons_mk (Below.trod laidOut (by kernel_rfl) (of_decide_eq_true (by kernel_rfl)) k0 bel lt0) trodAll_mk0), rfl, bel.frame _, fun h => by cases h⟩

theorem over : Rows.fnProcessEnvMatchesModelRow.holds Try.pinned (OpenSpec.ofChange Rows.fnProcessEnvMatchesModelSpec) :=
  OpenClaim.holds_of_wide 5 Try.f5 rfl rfl rfl rfl rfl rfl rfl ⟨rfl, rfl, rfl, rfl, rfl⟩ rfl rfl rfl rfl rfl (by kernel_rfl) Try.func5 (by kernel_rfl)
    (of_decide_eq_true (by kernel_rfl)) (by unfold Func.isWrapper; first | (rw [if_pos (by decide +kernel)]; kernel_rfl) | (rw [if_neg (by decide +kernel)]; exact ⟨rfl, rfl⟩))
    (fun os started H enc _ => lifted os started H enc)

/-- THE STATEMENT -/
theorem proved : Rows.FnProcessEnvMatchesModelSaid :=
  over
#print axioms proved
end Go.Proofs.Qxb6604301a.fnProcessEnvMatchesModel
