/-
  The contracts of 'leadingDigits' (19), 'ZZleadingDigits' (15), 'zzmIsDigit' (13); the law FnLeadingDigitsSpec.
-/
import Derived.Test.Qxb6603395aRows
import Derived.WalkKit
import Derived.ProofKit
import Derived.OpenShut
import Derived.ShutString
import Derived.Test.Qxb6603395aPlain
namespace Go.Proofs.Qxb6603395a.walks
open Go.ChangeShapes Go.WideShapes Go.ChangeAt Go.RowKit
open Go.Proofs.Qxb6603395a.plain
set_option linter.unusedVariables false

theorem ret_b {a b : Bool} (h : a = b) : Ending.returned (.bool a) = .returned (.bool b) := by rw [h]
theorem ret_int {k : IntKind} {a b : Int} (h : a = b) : Ending.returned (.int k a) = .returned (.int k b) := by rw [h]

theorem drop_at (s : ByteArray) (k : Nat) (h : k < s.size) : s.data.toList.drop k = s[k] :: s.data.toList.drop (k + 1) := by
  rw [List.drop_eq_getElem_cons (by simpa using h)]; rfl

theorem digit_any (c : Int) (w : World) :
    Calls Try.prog 13 #[.int .u8 c] w fun e w' => e = .returned (.bool (dgB c)) ∧ w' = w := by
  go_enter Try.func13, Try.ntmps13
  go_wp2
  all_goals
    go_ret
    refine ⟨ret_b ?_, rfl⟩
    unfold dgB
    rw [Bool.eq_iff_iff]
    simp
    try omega

set_option maxHeartbeats 400000 in
theorem ld_any (s : ByteArray) (w : World) (hs : s.size ≤ maxLen) :
    Calls Try.prog 19 #[.string s] w fun e w' => e = .returned (.int .i64 ((ld s.data.toList : Nat) : Int)) ∧ w' = w := by
  unfold maxLen at hs
  go_enter Try.func19, Try.ntmps19
  go_wp2
  go_loop [3] (fun i => ∃ k : Nat, k ≤ s.size ∧ i = .int .i64 k ∧ Hid (ld s.data.toList = k + ld (s.data.toList.drop k))) (fun i => s.size - (intOf i).toNat)
  case atStart => exact ⟨0, Nat.zero_le _, rfl, by show ld s.data.toList = 0 + ld (s.data.toList.drop 0); simp⟩
  case round =>
    obtain ⟨k, hk, rfl, hno⟩ := hrel
    by_cases hlt : k < s.size
    · have HS : Hid (s.data.toList.drop k = s[k] :: s.data.toList.drop (k + 1)) := drop_at s k hlt
      by_cases h1 : 48 ≤ ((s[k].toNat : Nat) : Int)
      · by_cases h2 : ((s[k].toNat : Nat) : Int) ≤ 57
        · have HD : Hid (dgB (ofB s[k]) = true) := by show dgB (ofB s[k]) = true; exact (dg_iff _).mpr ⟨h1, h2⟩
          go_wp2
          go_round
          case rel =>
            refine ⟨k + 1, by omega, by go_num, ?_⟩
            have e := hno.out
            rw [HS.out, ld_cons_yes HD.out] at e
            show ld s.data.toList = k + 1 + ld (s.data.toList.drop (k + 1))
            omega
          case measure => simp [intOf]; omega
        · have HD : Hid (dgB (ofB s[k]) = false) := by
            show dgB (ofB s[k]) = false
            rw [← Bool.not_eq_true, dg_iff]; unfold ofB; omega
          go_wp2
          go_ret
          have e := hno.out
          rw [HS.out, ld_cons_no HD.out] at e
          exact ⟨ret_int (by omega), rfl⟩
      · have HD : Hid (dgB (ofB s[k]) = false) := by
          show dgB (ofB s[k]) = false
          rw [← Bool.not_eq_true, dg_iff]; unfold ofB; omega
        go_wp2
        go_ret
        have e := hno.out
        rw [HS.out, ld_cons_no HD.out] at e
        exact ⟨ret_int (by omega), rfl⟩
    · go_wp2
      go_ret
      have e := hno.out
      rw [List.drop_of_length_le (by simp; omega)] at e
      simp only [ld] at e
      exact ⟨ret_int (by omega), rfl⟩

theorem zzld_any (s : ByteArray) (w : World) (hs : s.size ≤ maxLen) :
    Calls Try.prog 15 #[.string s] w fun e w' => e = .returned (.int .i64 ((ld s.data.toList : Nat) : Int)) ∧ w' = w := by
  go_enter Try.func15, Try.ntmps15
  go_wp2_with fail
  refine (ld_any s _ hs).mono ?_
  rintro e w' ⟨rfl, rfl⟩
  go_wp2
  go_ret
  exact ⟨rfl, rfl⟩

theorem long (s : ByteArray) (w : World) (hs : s.size ≤ maxLen) (h : 1048576 < s.size) :
    Calls Try.prog 6 #[.string s] w fun e w' => e = .returned (.bool true) ∧ w' = w := by
  unfold maxLen at hs
  go_enter Try.func6, Try.ntmps6
  go_wp2
  go_ret
  exact ⟨rfl, rfl⟩

theorem bytes14 (s : ByteArray) (w : World) (h : s.size ≤ 1048576) :
    Calls Try.prog 14 #[.string s] w fun e w' => e = .returned (.bool true) ∧ w' = w := by
  go_enter Try.func14, Try.ntmps14
  go_wp2
  go_ret
  exact ⟨rfl, rfl⟩

set_option maxHeartbeats 400000 in
theorem short (s : ByteArray) (w : World) (h : s.size ≤ 1048576) :
    Calls Try.prog 6 #[.string s] w fun e w' => e = .returned (.bool true) ∧ w' = w := by
  have hm : s.size ≤ maxLen := by unfold maxLen; omega
  have hl : ld s.data.toList ≤ s.size := by have := ld_le s.data.toList; simpa using this
  have HD : ∀ (j : Nat) (h : j < s.size), j < ld s.data.toList → Hid (dgB (((s[j]).toNat : Nat) : Int) = true) := fun j h hj => ld_digit s.data.toList j (by simpa using h) hj
  have HN : ∀ (h : ld s.data.toList < s.size), Hid (dgB (((s[ld s.data.toList]).toNat : Nat) : Int) = false) := fun h => ld_stop s.data.toList (by simpa using h)
  go_enter Try.func6, Try.ntmps6
  go_wp2_with fail
  refine (bytes14 _ _ h).mono ?_
  rintro e w' ⟨rfl, rfl⟩
  go_wp2_with fail
  refine (zzld_any s _ hm).mono ?_
  rintro e w' ⟨rfl, rfl⟩
  generalize ld s.data.toList = n at *
  have hq : decide (s.size < n) = false := by simp; omega
  have hq2 : decide ((n : Int) < 0) = false := by simp
  go_wp2
  go_loop [4] (fun i => ∃ k : Nat, k ≤ n ∧ i = .int .i64 k) (fun i => n - (intOf i).toNat)
  case atStart => exact ⟨0, Nat.zero_le _, rfl⟩
  case round =>
    obtain ⟨k, hk, rfl⟩ := hrel
    by_cases hlt : k < n
    · have hd := HD k (by omega) hlt
      clear HD HN
      have hks : k < s.size := by omega
      go_wp2_with fail
      refine (digit_any _ _).mono ?_
      rintro e w' ⟨rfl, rfl⟩
      have hd' := hd.out
      go_wp2
      go_round
      case rel => exact ⟨k + 1, by omega, by go_num⟩
      case measure => simp [intOf]; omega
    · have hkn : k = n := by omega
      subst hkn
      by_cases he : k = s.size
      · go_wp2
        go_ret
        exact ⟨rfl, rfl⟩
      · have hks : k < s.size := by omega
        have hd := HN hks
        clear HD HN
        have he' : ((k : Int) == (s.size : Int)) = false := by simp; omega
        go_wp2_with fail
        refine (digit_any _ _).mono ?_
        rintro e w' ⟨rfl, rfl⟩
        have hd' := hd.out
        go_wp2
        go_ret
        exact ⟨rfl, rfl⟩

end Go.Proofs.Qxb6603395a.walks
