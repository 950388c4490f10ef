/-
  The contracts of 'compareInts' (7), 'ZZcompareInts' (6); the law FnCompareIntsIsTotalOrder (4).
-/
import Derived.Test.Qxb6603785aRows
import Derived.WalkKit
import Derived.ProofKit
import Derived.OpenShut
import Derived.ShutString
namespace Go.Proofs.Qxb6603785a.walks
open Go.ChangeShapes Go.WideShapes Go.ChangeAt Go.RowKit
set_option linter.unusedVariables false

theorem ret_b {a b : Bool} (h : a = b) : Ending.returned (.bool a) = .returned (.bool b) := by rw [h]
theorem ret_int {k : IntKind} {a b : Int} (h : a = b) : Ending.returned (.int k a) = .returned (.int k b) := by rw [h]

def cmp (a b : Int) : Int := if a < b then -1 else if b < a then 1 else 0

theorem cmp_lt {a b : Int} (h : a < b) : cmp a b = -1 := by unfold cmp; rw [if_pos h]
theorem cmp_gt {a b : Int} (h : b < a) : cmp a b = 1 := by unfold cmp; rw [if_neg (by omega), if_pos h]
theorem cmp_eq {a b : Int} (h : a = b) : cmp a b = 0 := by unfold cmp; rw [if_neg (by omega), if_neg (by omega)]

theorem cmp_any (a b : Int) (w : World) :
    Calls Try.prog 7 #[.int .i64 a, .int .i64 b] w fun e w' => e = .returned (.int .i64 (cmp a b)) ∧ w' = w := by
  by_cases h1 : a < b
  · have HC : Hid (cmp a b = -1) := cmp_lt h1
    go_enter Try.func7, Try.ntmps7
    go_wp2
    go_ret
    exact ⟨ret_int HC.out.symm, rfl⟩
  · by_cases h2 : b < a
    · have HC : Hid (cmp a b = 1) := cmp_gt h2
      go_enter Try.func7, Try.ntmps7
      go_wp2
      go_ret
      exact ⟨ret_int HC.out.symm, rfl⟩
    · have HC : Hid (cmp a b = 0) := cmp_eq (by omega)
      go_enter Try.func7, Try.ntmps7
      go_wp2
      go_ret
      exact ⟨ret_int HC.out.symm, rfl⟩

theorem zzcmp_any (a b : Int) (w : World) :
    Calls Try.prog 6 #[.int .i64 a, .int .i64 b] w fun e w' => e = .returned (.int .i64 (cmp a b)) ∧ w' = w := by
  go_enter Try.func6, Try.ntmps6
  go_wp2_with fail
  refine (cmp_any _ _ _).mono ?_
  rintro e w' ⟨rfl, rfl⟩
  go_wp2
  go_ret
  exact ⟨rfl, rfl⟩

theorem order (a b c : Int) (x y z : Int) (w : World) (q : Bool) (hx : x = -1 ∧ q = false ∨ x = 0 ∧ q = true ∨ x = 1 ∧ q = false) (hy : y = -1 ∨ y = 0 ∨ y = 1) (hz : z = -1 ∨ z = 0 ∨ z = 1)
    (HB : Hid (cmp a b = x)) (HA : Hid (cmp b a = -x)) (HC : Hid (cmp b c = y)) (HD : Hid (cmp a c = z)) (HQ : (a == b) = q)
    (n1 : ¬ (x ≤ 0 ∧ y ≤ 0 ∧ 0 < z)) (n2 : ¬ (0 ≤ x ∧ 0 ≤ y ∧ z < 0)) :
    Calls Try.prog 4 #[.int .i64 a, .int .i64 b, .int .i64 c] w fun e w' => e = .returned (.bool true) ∧ w' = w := by
  rcases hx with ⟨rfl, rfl⟩ | ⟨rfl, rfl⟩ | ⟨rfl, rfl⟩ <;> rcases hy with rfl | rfl | rfl <;> rcases hz with rfl | rfl | rfl
  all_goals first | (exfalso; omega) | skip
  all_goals
    clear n1 n2
    go_enter Try.func4, Try.ntmps4
    go_wp2_with fail
    refine (zzcmp_any a b _).mono ?_
    rintro e w' ⟨rfl, rfl⟩
    rw [HB.out]
    go_wp2_with fail
    refine (zzcmp_any b a _).mono ?_
    rintro e w' ⟨rfl, rfl⟩
    rw [HA.out]
    go_wp2_with fail
    refine (zzcmp_any b c _).mono ?_
    rintro e w' ⟨rfl, rfl⟩
    rw [HC.out]
    go_wp2_with fail
    refine (zzcmp_any a c _).mono ?_
    rintro e w' ⟨rfl, rfl⟩
    rw [HD.out]
    go_wp2
    go_ret
    exact ⟨rfl, rfl⟩

theorem law (a b c : Int) (w : World) :
    Calls Try.prog 4 #[.int .i64 a, .int .i64 b, .int .i64 c] w fun e w' => e = .returned (.bool true) ∧ w' = w := by
  have tri : ∀ x y : Int, cmp x y = -1 ∧ x < y ∨ cmp x y = 0 ∧ x = y ∨ cmp x y = 1 ∧ y < x := by
    intro x y
    by_cases h1 : x < y
    · exact Or.inl ⟨cmp_lt h1, h1⟩
    · by_cases h2 : y < x
      · exact Or.inr (Or.inr ⟨cmp_gt h2, h2⟩)
      · exact Or.inr (Or.inl ⟨cmp_eq (by omega), by omega⟩)
  have hab := tri a b
  have hba := tri b a
  have hbc := tri b c
  have hac := tri a c
  have hq : (a == b) = true ∧ a = b ∨ (a == b) = false ∧ ¬ a = b := by
    by_cases h : a = b
    · exact Or.inl ⟨by simpa using h, h⟩
    · exact Or.inr ⟨by simpa using h, h⟩
  refine order a b c (cmp a b) (cmp b c) (cmp a c) w (a == b) ?_ ?_ ?_ rfl ?_ rfl rfl rfl ?_ ?_
  · rcases hab with h | h | h <;> rcases hq with q | q <;> simp only [h.1, q.1] <;> simp <;> omega
  · omega
  · omega
  · show cmp b a = - cmp a b
    omega
  · omega
  · omega

end Go.Proofs.Qxb6603785a.walks
