/- The law FnInClassLattice: the row round the walk, off the given shell. -/
import Derived.Test.Qxb6603394aRows
import Derived.WalkKit
import Derived.ProofKit
import Derived.OpenShut
import Derived.ShutString
import Derived.Test.Qxb6603394aLattice
namespace Go.Proofs.Qxb6603394a.fnInClassLattice
open Go.ChangeShapes Go.WideShapes Go.ChangeAt Go.RowKit
open Go.ChangeMaps (open_string shut_string)
open Go.Proofs.Qxb6603394a.inClass
set_option linter.unusedVariables false      -- a walk need not use every 'w<i>' (that an integer argument fits its kind)

theorem own : ownKnob Try.prog.godebug = none := by kernel_rfl

/-! ### The plain law: every byte is of one of eleven kinds -/
def vecB (c : Int) : List Bool := [isAlnum c, isAlpha c, isBlank c, isCntrl c, isDigit c, isGraph c, isLower c, isPrint c, isPunct c, isSpace c, isUpper c, isXdigit c]
def kindOf (c : Int) : Prop := ((c < 128) ∧ vecB c = [false, false, false, true, false, false, false, false, false, false, false, false]) ∨ ((c < 128) ∧ vecB c = [false, false, true, true, false, false, false, false, false, true, false, false]) ∨ ((c < 128) ∧ vecB c = [false, false, false, true, false, false, false, false, false, true, false, false]) ∨ ((c < 128) ∧ vecB c = [false, false, true, false, false, false, false, true, false, true, false, false]) ∨ ((c < 128) ∧ vecB c = [false, false, false, false, false, true, false, true, true, false, false, false]) ∨ ((c < 128) ∧ vecB c = [true, false, false, false, true, true, false, true, false, false, false, true]) ∨ ((c < 128) ∧ vecB c = [true, true, false, false, false, true, false, true, false, false, true, true]) ∨ ((c < 128) ∧ vecB c = [true, true, false, false, false, true, false, true, false, false, true, false]) ∨ ((c < 128) ∧ vecB c = [true, true, false, false, false, true, true, true, false, false, false, true]) ∨ ((c < 128) ∧ vecB c = [true, true, false, false, false, true, true, true, false, false, false, false]) ∨ ((128 ≤ c) ∧ vecB c = [false, false, false, false, false, false, false, false, false, false, false, false])
set_option maxRecDepth 100000 in
theorem kinds_fin : ∀ n : Fin 256, kindOf ((n.val : Nat) : Int) := by
  unfold kindOf
  decide +kernel

theorem kinds (c : Int) (h0 : 0 ≤ c) (h1 : c < 256) : kindOf c := by
  have h := kinds_fin ⟨c.toNat, by omega⟩
  have e : ((c.toNat : Nat) : Int) = c := by omega
  simp only [e] at h
  exact h

theorem walk (a0 : Int) (w0 : (Lit.int .u8 a0).wf = true) (w : World) :
    Calls Try.prog 6 #[.int .u8 a0] w fun e w' => e = .returned (.bool true) ∧ Grown w w' := by
  have hb := bounds_u8 w0
  have hk := kinds a0 (by omega) (by omega)
  have fin : ∀ (e : Ending) (w' : World), (e = .returned (.bool true) ∧ w' = w) → (e = .returned (.bool true) ∧ Grown w w') := by
    rintro e w' ⟨rfl, rfl⟩
    exact ⟨rfl, Grown.refl _⟩
  unfold kindOf vecB at hk
  simp only [List.cons.injEq, and_true] at hk
  rcases hk with ⟨hc, k0, k1, k2, k3, k4, k5, k6, k7, k8, k9, k10, k11⟩ | ⟨hc, k0, k1, k2, k3, k4, k5, k6, k7, k8, k9, k10, k11⟩ | ⟨hc, k0, k1, k2, k3, k4, k5, k6, k7, k8, k9, k10, k11⟩ | ⟨hc, k0, k1, k2, k3, k4, k5, k6, k7, k8, k9, k10, k11⟩ | ⟨hc, k0, k1, k2, k3, k4, k5, k6, k7, k8, k9, k10, k11⟩ | ⟨hc, k0, k1, k2, k3, k4, k5, k6, k7, k8, k9, k10, k11⟩ | ⟨hc, k0, k1, k2, k3, k4, k5, k6, k7, k8, k9, k10, k11⟩ | ⟨hc, k0, k1, k2, k3, k4, k5, k6, k7, k8, k9, k10, k11⟩ | ⟨hc, k0, k1, k2, k3, k4, k5, k6, k7, k8, k9, k10, k11⟩ | ⟨hc, k0, k1, k2, k3, k4, k5, k6, k7, k8, k9, k10, k11⟩ | ⟨hc, k0, k1, k2, k3, k4, k5, k6, k7, k8, k9, k10, k11⟩
  · exact (lat_ctl a0 w hc k0 k1 k2 k3 k4 k5 k6 k7 k8 k9 k10 k11).mono fin
  · exact (lat_tab a0 w hc k0 k1 k2 k3 k4 k5 k6 k7 k8 k9 k10 k11).mono fin
  · exact (lat_nl a0 w hc k0 k1 k2 k3 k4 k5 k6 k7 k8 k9 k10 k11).mono fin
  · exact (lat_sp a0 w hc k0 k1 k2 k3 k4 k5 k6 k7 k8 k9 k10 k11).mono fin
  · exact (lat_pun a0 w hc k0 k1 k2 k3 k4 k5 k6 k7 k8 k9 k10 k11).mono fin
  · exact (lat_dig a0 w hc k0 k1 k2 k3 k4 k5 k6 k7 k8 k9 k10 k11).mono fin
  · exact (lat_uph a0 w hc k0 k1 k2 k3 k4 k5 k6 k7 k8 k9 k10 k11).mono fin
  · exact (lat_upp a0 w hc k0 k1 k2 k3 k4 k5 k6 k7 k8 k9 k10 k11).mono fin
  · exact (lat_loh a0 w hc k0 k1 k2 k3 k4 k5 k6 k7 k8 k9 k10 k11).mono fin
  · exact (lat_low a0 w hc k0 k1 k2 k3 k4 k5 k6 k7 k8 k9 k10 k11).mono fin
  · exact (lat_hi a0 w hc k0 k1 k2 k3 k4 k5 k6 k7 k8 k9 k10 k11).mono fin

/-! ### THE ROW's STEP: WRITTEN OUT: LEAVE IT -/
set_option maxRecDepth 100000 in
theorem lifted (os : Os) (started : os.Started) (H : Type) (enc : TypeId × Value → H) :
    ReturnsInHanded {} Try.checked os 6 .any (Rows.fnInClassLatticeSpec.pre6 enc Try.prog Try.f6 Rows.fnInClassLatticeRow.domain false) (Rows.fnInClassLatticeSpec.post enc Try.prog Try.f6 false true false false) := by
  refine returnsInHanded_of_change (C := Try.checked) own started (by kernel_rfl) Try.func6
    (ChangeSpec.witness6 (enc := enc) (C := Try.checked) false ⟨#[], #[.int .u8 0], []⟩ 8 (by kernel_rfl) (by kernel_rfl) (by kernel_rfl) (by kernel_rfl)) ?_
  intro W base args ds gs before hval0 hW hcnd _
  have hval : ∀ (j : Nat) t v, Try.f6.params[j]? = some t → args[j]? = some v → Value.okWide Try.prog W .any base t v := hval0
  have hW' := hW
  obtain ⟨p, q, hA0, hV, rfl, hfz, hnd⟩ := hW
  have hA : DataW.TrodAll enc Try.prog W 0 (fun _ => true) true Try.f6.params.toList args.toList ds p := hA0
  rw [Try.params6] at hA hval
  obtain ⟨v0, vs0, d0, ds0, p0, q0, hargs, rfl, rfl, h0, r0⟩ := trodAll_cons hA
  obtain ⟨rfl, rfl, rfl⟩ := trodAll_nil r0
  obtain rfl : args = #[v0] := by cases args; simp_all
  obtain ⟨rfl, rfl⟩ := trodVars_none hV
  obtain ⟨a0, rfl, rfl, rfl, w0⟩ := open_int Try.underlying5 (hval 0 5 v0 rfl rfl) h0
  clear hA0 hval0
  simp only [List.append_nil] at hW'
  refine (walk a0 w0 W).mono fun e W' ⟨he, hg⟩ => ?_
  subst he
  exact ⟨_, rfl, post_of_same (pa := []) (pv := []) hW' (fun _ _ _ => (trodAll_cons_mk (shut_bool Try.underlying4 _) trodAll_mk0)) (fun sp _ => (trodAll_cons_mk (shut_int Try.underlying5 w0) trodAll_mk0)) (fun _ _ => rfl) rfl
    (hg.frame _) hg.2.1 (ok_one (by kernel_rfl) rfl (okWide_bool_mk Try.underlying4 _))⟩

theorem over : Rows.fnInClassLatticeRow.holds Try.pinned (OpenSpec.ofChange Rows.fnInClassLatticeSpec) :=
  OpenClaim.holds_of_wide 6 Try.f6 rfl rfl rfl rfl rfl rfl rfl ⟨rfl, rfl, rfl, rfl, rfl⟩ rfl rfl rfl rfl rfl (by kernel_rfl) Try.func6 (by kernel_rfl)
    (of_decide_eq_true (by kernel_rfl)) (by unfold Func.isWrapper; first | (rw [if_pos (by decide +kernel)]; kernel_rfl) | (rw [if_neg (by decide +kernel)]; exact ⟨rfl, rfl⟩))
    (fun os started H enc _ => lifted os started H enc)

/-- ████ THE STATEMENT ████ -/
theorem proved : Rows.FnInClassLatticeSaid :=
  over
#print axioms proved
end Go.Proofs.Qxb6603394a.fnInClassLattice
