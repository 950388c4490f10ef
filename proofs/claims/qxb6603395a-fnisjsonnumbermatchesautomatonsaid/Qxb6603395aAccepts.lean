/-
  The contracts of 'zzmStep' (18) and 'zzmAccepts' (10); the law FnIsJSONNumberMatchesAutomaton (3).
-/
import Derived.Test.Qxb6603395aJson
namespace Go.Proofs.Qxb6603395a.walks
open Go.ChangeShapes Go.WideShapes Go.ChangeAt Go.RowKit
open Go.Proofs.Qxb6603395a.plain
set_option linter.unusedVariables false

set_option maxHeartbeats 400000 in
theorem step_any (st c : Int) (w : World) (h0 : 0 ≤ st) (h8 : st ≤ 8) :
    Calls Try.prog 18 #[.int .i64 st, .int .u8 c] w fun e w' => e = .returned (.int .i64 (plain.step st c)) ∧ w' = w := by
  have hs : st = 0 ∨ st = 1 ∨ st = 2 ∨ st = 3 ∨ st = 4 ∨ st = 5 ∨ st = 6 ∨ st = 7 ∨ st = 8 := by omega
  clear h0 h8
  rcases hs with rfl | rfl | rfl | rfl | rfl | rfl | rfl | rfl | rfl
  all_goals
    go_enter Try.func18, Try.ntmps18
    go_wp2_with fail
    refine (digit_any _ _).mono ?_
    rintro e w' ⟨rfl, rfl⟩
    go_wp2
    all_goals
      go_ret
      refine ⟨ret_int ?_, rfl⟩
      go_light
      simp_all [plain.step]

theorem acc_at (st : Int) (b : UInt8) (t : List UInt8) : acc st (b :: t) = if plain.step st (ofB b) < 0 then false else acc (plain.step st (ofB b)) t := rfl

set_option maxHeartbeats 400000 in
theorem acc_any (s : ByteArray) (w : World) (hs : s.size ≤ maxLen) :
    Calls Try.prog 10 #[.string s] w fun e w' => e = .returned (.bool (acc 0 s.data.toList)) ∧ w' = w := by
  unfold maxLen at hs
  go_enter Try.func10, Try.ntmps10
  go_wp2
  go_loop [3, 4] (fun t i => ∃ (k : Nat) (st : Int), k ≤ s.size ∧ 0 ≤ st ∧ st ≤ 8 ∧ t = .int .i64 st ∧ i = .int .i64 k ∧ Hid (acc 0 s.data.toList = acc st (s.data.toList.drop k))) (fun _ i => s.size - (intOf i).toNat)
  case atStart => exact ⟨0, 0, Nat.zero_le _, by omega, by omega, rfl, rfl, by show acc 0 s.data.toList = acc 0 (s.data.toList.drop 0); simp⟩
  case round =>
    obtain ⟨k, st, hk, h0, h8, rfl, rfl, HA⟩ := hrel
    by_cases hlt : k < s.size
    · have HS : Hid (acc 0 s.data.toList = if plain.step st (((s[k].toNat : Nat) : Int)) < 0 then false else acc (plain.step st (((s[k].toNat : Nat) : Int))) (s.data.toList.drop (k + 1))) := by
        have e := HA.out
        rw [drop_at s k hlt, acc_at] at e
        exact e
      have hb := step_bd st (((s[k].toNat : Nat) : Int))
      clear HA
      go_wp2_with fail
      refine (step_any _ _ _ h0 h8).mono ?_
      rintro e w' ⟨rfl, rfl⟩
      generalize plain.step st (((s[k].toNat : Nat) : Int)) = q at *
      by_cases hq : q < 0
      · have HE : Hid (acc 0 s.data.toList = false) := by
          have e := HS.out
          rw [if_pos hq] at e
          exact e
        clear HS hb
        go_wp2
        go_ret
        exact ⟨ret_b HE.out.symm, rfl⟩
      · have HE : Hid (acc 0 s.data.toList = acc q (s.data.toList.drop (k + 1))) := by
          have e := HS.out
          rw [if_neg hq] at e
          exact e
        have hq0 : 0 ≤ q := by omega
        have hq8 : q ≤ 8 := by omega
        clear HS hb
        go_wp2
        go_round
        case rel => exact ⟨k + 1, q, by omega, hq0, hq8, rfl, by go_num, HE⟩
        case measure => simp [intOf]; omega
    · have HE : Hid (acc 0 s.data.toList = accN st) := by
        have e := HA.out
        rw [List.drop_of_length_le (by simp; omega)] at e
        exact e
      clear HA
      have hs : st = 0 ∨ st = 1 ∨ st = 2 ∨ st = 3 ∨ st = 4 ∨ st = 5 ∨ st = 6 ∨ st = 7 ∨ st = 8 := by omega
      rcases hs with rfl | rfl | rfl | rfl | rfl | rfl | rfl | rfl | rfl
      all_goals
        clear h0 h8
        go_wp2
        go_ret
        exact ⟨ret_b (by rw [HE.out]; rfl), rfl⟩

theorem zzjson_any (s : ByteArray) (w : World) (hs : s.size ≤ 1048576) :
    Calls Try.prog 9 #[.string s] w fun e w' => e = .returned (.bool (jn s.data.toList)) ∧ w' = w := by
  go_enter Try.func9, Try.ntmps9
  go_wp2_with fail
  refine (json_any s _ hs).mono ?_
  rintro e w' ⟨rfl, rfl⟩
  go_wp2
  go_ret
  exact ⟨rfl, rfl⟩

theorem bytes8 (s : ByteArray) (w : World) (h : s.size ≤ 1048576) :
    Calls Try.prog 8 #[.string s] w fun e w' => e = .returned (.bool true) ∧ w' = w := by
  go_enter Try.func8, Try.ntmps8
  go_wp2
  go_ret
  exact ⟨rfl, rfl⟩

theorem auto_long (s : ByteArray) (w : World) (hs : s.size ≤ maxLen) (h : 1048576 < s.size) :
    Calls Try.prog 3 #[.string s] w fun e w' => e = .returned (.bool true) ∧ w' = w := by
  unfold maxLen at hs
  go_enter Try.func3, Try.ntmps3
  go_wp2
  go_ret
  exact ⟨rfl, rfl⟩

theorem auto_short (s : ByteArray) (w : World) (hs : s.size ≤ 1048576) :
    Calls Try.prog 3 #[.string s] w fun e w' => e = .returned (.bool true) ∧ w' = w := by
  have HA : Hid (jn s.data.toList = acc 0 s.data.toList) := jn_acc _
  go_enter Try.func3, Try.ntmps3
  go_wp2_with fail
  refine (bytes8 s _ hs).mono ?_
  rintro e w' ⟨rfl, rfl⟩
  go_wp2_with fail
  refine (zzjson_any s _ hs).mono ?_
  rintro e w' ⟨rfl, rfl⟩
  go_wp2_with fail
  refine (acc_any s _ (small_max hs)).mono ?_
  rintro e w' ⟨rfl, rfl⟩
  go_wp2
  go_ret
  exact ⟨ret_b (by rw [HA.out]; simp), rfl⟩

end Go.Proofs.Qxb6603395a.walks
