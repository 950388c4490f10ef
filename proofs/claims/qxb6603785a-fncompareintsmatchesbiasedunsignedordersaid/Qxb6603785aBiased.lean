/-
  The contract of 'biased' (5); the law FnCompareIntsMatchesBiasedUnsignedOrder (3).
-/
import Derived.Test.Qxb6603785aCmp
import Derived.Test.Qxb6603785aBias
namespace Go.Proofs.Qxb6603785a.walks
open Go.ChangeShapes Go.WideShapes Go.ChangeAt Go.RowKit
set_option linter.unusedVariables false

theorem biased_any (a : Int) (w : World) :
    Calls Try.prog 5 #[.int .i64 a] w fun e w' => e = .returned (.int .u64 (bias a)) ∧ w' = w := by
  go_enter Try.func5, Try.ntmps5
  go_wp2
  go_ret
  exact ⟨rfl, rfl⟩

theorem law2 (a b : Int) (w : World) (h : (a < b ∧ bias a < bias b) ∨ (b < a ∧ bias b < bias a) ∨ (a = b ∧ bias a = bias b)) :
    Calls Try.prog 3 #[.int .i64 a, .int .i64 b] w fun e w' => e = .returned (.bool true) ∧ w' = w := by
  have HA := biased_any a
  have HB := biased_any b
  rcases h with ⟨h1, h2⟩ | ⟨h1, h2⟩ | ⟨h1, h2⟩
  · have HC : Hid (cmp a b = -1) := cmp_lt h1
    clear h1
    go_enter Try.func3, Try.ntmps3
    go_wp2_with fail
    refine (HA _).mono ?_
    rintro e w' ⟨rfl, rfl⟩
    go_wp2_with fail
    refine (HB _).mono ?_
    rintro e w' ⟨rfl, rfl⟩
    clear HA HB
    generalize bias a = x at *
    generalize bias b = y at *
    go_wp2_with fail
    refine (zzcmp_any _ _ _).mono ?_
    rintro e w' ⟨rfl, rfl⟩
    rw [HC.out]
    go_wp2
    go_ret
    exact ⟨rfl, rfl⟩
  · have HC : Hid (cmp a b = 1) := cmp_gt h1
    clear h1
    go_enter Try.func3, Try.ntmps3
    go_wp2_with fail
    refine (HA _).mono ?_
    rintro e w' ⟨rfl, rfl⟩
    go_wp2_with fail
    refine (HB _).mono ?_
    rintro e w' ⟨rfl, rfl⟩
    clear HA HB
    generalize bias a = x at *
    generalize bias b = y at *
    go_wp2_with fail
    refine (zzcmp_any _ _ _).mono ?_
    rintro e w' ⟨rfl, rfl⟩
    rw [HC.out]
    go_wp2
    go_ret
    exact ⟨rfl, rfl⟩
  · have HC : Hid (cmp a b = 0) := cmp_eq h1
    clear h1
    have n1 : ¬ bias a < bias b := by omega
    have n2 : ¬ bias b < bias a := by omega
    clear h2
    go_enter Try.func3, Try.ntmps3
    go_wp2_with fail
    refine (HA _).mono ?_
    rintro e w' ⟨rfl, rfl⟩
    go_wp2_with fail
    refine (HB _).mono ?_
    rintro e w' ⟨rfl, rfl⟩
    clear HA HB
    generalize bias a = x at *
    generalize bias b = y at *
    go_wp2_with fail
    refine (zzcmp_any _ _ _).mono ?_
    rintro e w' ⟨rfl, rfl⟩
    rw [HC.out]
    go_wp2
    go_ret
    exact ⟨rfl, rfl⟩

end Go.Proofs.Qxb6603785a.walks
