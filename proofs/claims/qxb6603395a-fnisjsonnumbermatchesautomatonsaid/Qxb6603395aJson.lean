/-
  The contract of 'isJSONNumber' (17), by cuts around its tests.
-/
import Derived.Test.Qxb6603395aDigits
import Derived.Test.Qxb6603395aStages
import Derived.Deep.DeepCutAuto
import Derived.Deep.Light
import Derived.Lib.IndexBytes
namespace Go.Proofs.Qxb6603395a.walks
open Go.ChangeShapes Go.WideShapes Go.ChangeAt Go.RowKit
open Go.Proofs.Qxb6603395a.plain
set_option linter.unusedVariables false

theorem bool_eq {a b : Bool} (h : a = b) : Value.bool a = .bool b := by rw [h]
theorem hd_nil (r : ByteArray) (c : Int) (h : r.size = 0) : hd r.data.toList c = false := by
  have : r.data.toList = [] := List.length_eq_zero_iff.mp (by simpa using h)
  rw [this]; rfl
theorem hd_at (r : ByteArray) (c : Int) (h : 0 < r.size) : hd r.data.toList c = (((r[0].toNat : Nat) : Int) == c) := by
  have e := drop_at r 0 h
  rw [List.drop_zero] at e
  rw [e]; rfl
theorem emp_yes (r : ByteArray) (h : r.size = 0) : r.toList = [] := by
  rw [ByteArray.toList_eq]; exact List.length_eq_zero_iff.mp (by simpa using h)
theorem emp_no (r : ByteArray) (h : 0 < r.size) : r.toList.isEmpty = false := by
  rw [ByteArray.toList_eq]
  have hl : r.data.toList.length = r.size := by simp
  cases e : r.data.toList with
  | nil => rw [e] at hl; simp at hl; omega
  | cons b t => rfl
theorem hd_size {r : ByteArray} {c : Int} (h : hd r.data.toList c = true) : 0 < r.size := by
  have := hd_pos h; simpa using this
theorem hd2_size {r : ByteArray} {c d : Int} (h : (hd r.data.toList c || hd r.data.toList d) = true) : 0 < r.size := by
  rw [Bool.or_eq_true] at h
  rcases h with h | h <;> exact hd_size h
theorem ext_size (r : ByteArray) (n : Nat) (h : r.size ≤ 1048576) : (r.extract n r.size).size ≤ 1048576 := by simp; omega
theorem ext_max (r : ByteArray) (n : Nat) (h : r.size ≤ 1048576) : (r.extract n r.size).size ≤ maxLen := by
  have := ext_size r n h; unfold maxLen; omega
theorem small_max {r : ByteArray} (h : r.size ≤ 1048576) : r.size ≤ maxLen := by unfold maxLen; omega
theorem ld_size (r : ByteArray) : ld r.data.toList ≤ r.size := by have := ld_le r.data.toList; simpa using this
theorem ld_c (s : ByteArray) (w : World) (hs : s.size ≤ maxLen) :
    Calls Try.prog 19 #[.string s] w fun e w' => e = .returned (.int .i64 ((ld s.data.toList : Nat) : Int)) ∧ w = w' :=
  (ld_any s w hs).mono fun e w' ⟨h1, h2⟩ => ⟨h1, h2.symm⟩
theorem isE (r : ByteArray) : r.toList.isEmpty = r.data.toList.isEmpty := by rw [ByteArray.toList_eq]

set_option maxRecDepth 100000 in
set_option maxHeartbeats 4000000 in
theorem json_any (s : ByteArray) (w : World) (hs : s.size ≤ 1048576) :
    Calls Try.prog 17 #[.string s] w fun e w' => e = .returned (.bool (jn s.data.toList)) ∧ w' = w := by
  go_enter Try.func17, Try.ntmps17
  go_upto_region 2 with fail
  go_cut [14] (fun t wx => ∃ b : Bool, t = .bool b ∧ Hid (hd s.data.toList 45 = b) ∧ w = wx)
  case first =>
    by_cases he : s.size = 0
    · have e1 := emp_yes s he
      have HE : Hid (hd s.data.toList 45 = false) := hd_nil s _ he
      clear he
      go_wp2_with fail
      go_meet
      case rel => exact ⟨_, rfl, HE.out, rfl⟩
    · have h0 : 0 < s.size := by omega
      have e1 := emp_no s h0
      have HE : Hid (hd s.data.toList 45 = (((s[0].toNat : Nat) : Int) == 45)) := hd_at s _ h0
      clear he
      go_wp2_with fail
      go_meet
      case rel => exact ⟨_, rfl, HE.out, rfl⟩
  case rest =>
  obtain ⟨bM, rfl, HM, rfl⟩ := hcut
  go_upto_if 14 with fail
  go_cut [3] (fun t wx => ∃ r : ByteArray, t = .string r ∧ r.size ≤ 1048576 ∧ Hid (jn s.data.toList = jnW r.data.toList) ∧ w = wx)
  case first =>
    cases bM
    · go_wp2_with fail
      go_meet
      case rel => exact ⟨_, rfl, hs, jn_no HM.out, rfl⟩
    · have h0 := hd_size HM.out
      have h1 : (1 : Int) ≤ (s.size : Int) := by omega
      go_wp2_with fail
      go_meet
      case rel =>
        refine ⟨_, rfl, ext_size s 1 hs, ?_, rfl⟩
        show jn s.data.toList = jnW (s.extract 1 s.size).data.toList
        rw [Lib.extract_to_end, jn_yes HM.out]
  case rest =>
  obtain ⟨r, rfl, hr, HR, rfl⟩ := hcut
  clear HM
  -- whole := leadingDigits(rest)
  go_upto_region 5 with (go_at_call 19; refine (ld_c _ _ (small_max hr)).mono ?_; rintro e w' ⟨rfl, rfl⟩)
  have hl := ld_size r
  go_cut [29] (fun t wx => ∃ b : Bool, t = .bool b ∧ Hid ((decide (ld r.data.toList = 0) || (decide (1 < ld r.data.toList) && hd r.data.toList 48)) = b) ∧ w = wx)
  case first =>
    have HH : ∀ h : 0 < r.size, Hid (hd r.data.toList 48 = (((r[0].toNat : Nat) : Int) == 48)) := fun h => hd_at r 48 h
    generalize hd r.data.toList 48 = q at *
    generalize ld r.data.toList = n at *
    by_cases hn0 : n = 0
    · subst hn0
      clear HH
      go_wp2_with fail
      go_meet
      case rel => exact ⟨_, rfl, by simp [Hid], rfl⟩
    · have hr0 : 0 < r.size := by omega
      have HE := HH hr0
      clear HH
      have en : ((n : Int) == 0) = false := by simp; omega
      by_cases hn1 : 1 < n
      · go_wp2_with fail
        go_meet
        case rel => exact ⟨_, rfl, by show _ = _; rw [HE.out]; simp [hn0, hn1], rfl⟩
      · have hn1' : decide (1 < n) = false := by simpa using hn1
        go_wp2_with fail
        go_meet
        case rel => exact ⟨_, rfl, by show _ = _; simp [hn0, hn1], rfl⟩
  case rest =>
  obtain ⟨bW, rfl, HW, rfl⟩ := hcut
  cases bW
  case true =>
    have HF : Hid (jn s.data.toList = false) := HR.out.trans (jnW_no HW.out)
    go_wp2_with fail
    go_ret
    exact ⟨ret_b HF.out.symm, rfl⟩
  case false =>
  go_upto_region 7 with fail
  go_cut [3] (fun t wx => ∃ r2 : ByteArray, t = .string r2 ∧ r2.size ≤ 1048576 ∧ Hid (jn s.data.toList = jnF r2.data.toList) ∧ w = wx)
  case first =>
    have HX : Hid (jn s.data.toList = jnF (r.extract (ld r.data.toList) r.size).data.toList) := by
      show jn s.data.toList = jnF (r.extract (ld r.data.toList) r.size).data.toList
      rw [Lib.extract_to_end]; exact HR.out.trans (jnW_yes HW.out)
    clear HR HW
    generalize ld r.data.toList = n at *
    go_wp2_with fail
    go_meet
    case rel => exact ⟨_, rfl, ext_size r n hr, HX, rfl⟩
  case rest =>
  obtain ⟨r2, rfl, hr2, HR2, rfl⟩ := hcut
  clear HR HW hl
  go_upto_region 8 with fail
  go_cut [39] (fun t wx => ∃ b : Bool, t = .bool b ∧ Hid (hd r2.data.toList 46 = b) ∧ w = wx)
  case first =>
    by_cases he : r2.size = 0
    · have e1 := emp_yes r2 he
      have HE : Hid (hd r2.data.toList 46 = false) := hd_nil r2 _ he
      clear he
      go_wp2_with fail
      go_meet
      case rel => exact ⟨_, rfl, HE.out, rfl⟩
    · have h0 : 0 < r2.size := by omega
      have e1 := emp_no r2 h0
      have HE : Hid (hd r2.data.toList 46 = (((r2[0].toNat : Nat) : Int) == 46)) := hd_at r2 _ h0
      clear he
      go_wp2_with fail
      go_meet
      case rel => exact ⟨_, rfl, HE.out, rfl⟩
  case rest =>
  obtain ⟨bF, rfl, HF, rfl⟩ := hcut
  go_upto_if 39 with fail
  go_cut [3] (fun t wx => ∃ r3 : ByteArray, t = .string r3 ∧ r3.size ≤ 1048576 ∧ Hid (jn s.data.toList = jnX r3.data.toList) ∧ w = wx)
  case first =>
    cases bF
    · go_wp2_with fail
      go_meet
      case rel => exact ⟨_, rfl, hr2, HR2.out.trans (jnF_no HF.out), rfl⟩
    · have h0 := hd_size HF.out
      have h1 : (1 : Int) ≤ (r2.size : Int) := by omega
      have hl2 := ld_size (r2.extract 1 r2.size)
      have hsz : (r2.extract 1 r2.size).size = r2.size - 1 := by simp
      rw [hsz] at hl2
      clear hsz
      have HZ : ld (r2.extract 1 r2.size).data.toList = 0 → Hid (jn s.data.toList = false) := fun h => HR2.out.trans (jnF_zero HF.out (by rw [← Lib.extract_to_end]; exact h))
      have HS : ¬ ld (r2.extract 1 r2.size).data.toList = 0 → Hid (jn s.data.toList = jnX (r2.extract (1 + ld (r2.extract 1 r2.size).data.toList) r2.size).data.toList) := fun h => by
        show jn s.data.toList = jnX (r2.extract (1 + ld (r2.extract 1 r2.size).data.toList) r2.size).data.toList
        rw [Lib.extract_to_end, Lib.extract_to_end]
        exact HR2.out.trans (jnF_some HF.out (by rw [← Lib.extract_to_end]; exact h))
      clear HR2 HF
      go_wp2_with fail
      refine (ld_c _ _ (ext_max r2 1 hr2)).mono ?_
      rintro e w' ⟨rfl, rfl⟩
      generalize ld (r2.extract 1 r2.size).data.toList = n at *
      by_cases hn : n = 0
      · have HE := HZ hn
        subst hn
        clear HZ HS
        go_wp2_with fail
        go_ret
        exact ⟨ret_b HE.out.symm, rfl⟩
      · have HE := HS hn
        clear HZ HS
        have en : ((n : Int) == 0) = false := by simp; omega
        go_wp2_with fail
        go_meet
        case rel => exact ⟨_, rfl, ext_size r2 (1 + n) hr2, HE, rfl⟩
  case rest =>
  obtain ⟨r3, rfl, hr3, HR3, rfl⟩ := hcut
  clear HR2 HF
  go_upto_region 13 with fail
  go_cut [60] (fun t wx => ∃ b : Bool, t = .bool b ∧ Hid ((hd r3.data.toList 101 || hd r3.data.toList 69) = b) ∧ w = wx)
  case first =>
    by_cases he : r3.size = 0
    · have e1 := emp_yes r3 he
      have HE : Hid ((hd r3.data.toList 101 || hd r3.data.toList 69) = false) := by
        show (hd r3.data.toList 101 || hd r3.data.toList 69) = false
        rw [hd_nil r3 _ he, hd_nil r3 _ he]; rfl
      clear he
      go_wp2_with fail
      go_meet
      case rel => exact ⟨_, rfl, HE.out, rfl⟩
    · have h0 : 0 < r3.size := by omega
      have e1 := emp_no r3 h0
      have HE : Hid ((hd r3.data.toList 101 || hd r3.data.toList 69) = (((r3[0].toNat : Nat) : Int) == 101 || ((r3[0].toNat : Nat) : Int) == 69)) := by
        show (hd r3.data.toList 101 || hd r3.data.toList 69) = (((r3[0].toNat : Nat) : Int) == 101 || ((r3[0].toNat : Nat) : Int) == 69)
        rw [hd_at r3 _ h0, hd_at r3 _ h0]
      clear he
      by_cases hq : (((r3[0].toNat : Nat) : Int) == 101) = true
      · have HQ : Hid (_ = _) := hq
        go_wp2_with fail
        go_meet
        case rel => exact ⟨_, rfl, by have e := HE.out; rw [HQ.out] at e; exact e, rfl⟩
      · have hq' : (((r3[0].toNat : Nat) : Int) == 101) = false := by simpa using hq
        have HQ : Hid (_ = _) := hq'
        clear hq
        go_wp2_with fail
        go_meet
        case rel => exact ⟨_, rfl, by have e := HE.out; rw [HQ.out] at e; exact e, rfl⟩
  case rest =>
  obtain ⟨bX, rfl, HX, rfl⟩ := hcut
  go_upto_if 60 with fail
  go_cut [3] (fun t wx => ∃ r6 : ByteArray, t = .string r6 ∧ Hid (jn s.data.toList = r6.data.toList.isEmpty) ∧ w = wx)
  case first =>
    cases bX
    · go_wp2_with fail
      go_meet
      case rel => exact ⟨_, rfl, HR3.out.trans (jnX_no HX.out), rfl⟩
    · have h0 := hd2_size HX.out
      have h1 : (1 : Int) ≤ (r3.size : Int) := by omega
      go_upto_region 14 with fail
      go_cut [3] (fun t wx => ∃ r4 : ByteArray, t = .string r4 ∧ r4.size ≤ 1048576 ∧ Hid (jn s.data.toList = jnE (stripS r4.data.toList)) ∧ w = wx)
      case first =>
        go_wp2_with fail
        go_meet
        case rel =>
          refine ⟨_, rfl, ext_size r3 1 hr3, ?_, rfl⟩
          show jn s.data.toList = jnE (stripS (r3.extract 1 r3.size).data.toList)
          rw [Lib.extract_to_end]; exact HR3.out.trans (jnX_yes HX.out)
      case rest =>
      obtain ⟨r4, rfl, hr4, HR4, rfl⟩ := hcut
      clear HR3 HX h0 h1
      go_upto_region 15 with fail
      go_cut [74] (fun t wx => ∃ b : Bool, t = .bool b ∧ Hid ((hd r4.data.toList 43 || hd r4.data.toList 45) = b) ∧ w = wx)
      case first =>
        by_cases he : r4.size = 0
        · have e1 := emp_yes r4 he
          have HE : Hid ((hd r4.data.toList 43 || hd r4.data.toList 45) = false) := by
            show (hd r4.data.toList 43 || hd r4.data.toList 45) = false
            rw [hd_nil r4 _ he, hd_nil r4 _ he]; rfl
          clear he
          go_wp2_with fail
          go_meet
          case rel => exact ⟨_, rfl, HE.out, rfl⟩
        · have h0 : 0 < r4.size := by omega
          have e1 := emp_no r4 h0
          have HE : Hid ((hd r4.data.toList 43 || hd r4.data.toList 45) = (((r4[0].toNat : Nat) : Int) == 43 || ((r4[0].toNat : Nat) : Int) == 45)) := by
            show (hd r4.data.toList 43 || hd r4.data.toList 45) = (((r4[0].toNat : Nat) : Int) == 43 || ((r4[0].toNat : Nat) : Int) == 45)
            rw [hd_at r4 _ h0, hd_at r4 _ h0]
          clear he
          by_cases hq : (((r4[0].toNat : Nat) : Int) == 43) = true
          · have HQ : Hid (_ = _) := hq
            go_wp2_with fail
            go_meet
            case rel => exact ⟨_, rfl, by have e := HE.out; rw [HQ.out] at e; exact e, rfl⟩
          · have hq' : (((r4[0].toNat : Nat) : Int) == 43) = false := by simpa using hq
            have HQ : Hid (_ = _) := hq'
            clear hq
            go_wp2_with fail
            go_meet
            case rel => exact ⟨_, rfl, by have e := HE.out; rw [HQ.out] at e; exact e, rfl⟩
      case rest =>
      obtain ⟨bS, rfl, HS, rfl⟩ := hcut
      go_upto_if 74 with fail
      go_cut [3] (fun t wx => ∃ r5 : ByteArray, t = .string r5 ∧ r5.size ≤ 1048576 ∧ Hid (jn s.data.toList = jnE r5.data.toList) ∧ w = wx)
      case first =>
        cases bS
        · go_wp2_with fail
          go_meet
          case rel => exact ⟨_, rfl, hr4, HR4.out.trans (by rw [stripS_no HS.out]), rfl⟩
        · have h0 := hd2_size HS.out
          have h1 : (1 : Int) ≤ (r4.size : Int) := by omega
          go_wp2_with fail
          go_meet
          case rel =>
            refine ⟨_, rfl, ext_size r4 1 hr4, ?_, rfl⟩
            show jn s.data.toList = jnE (r4.extract 1 r4.size).data.toList
            rw [Lib.extract_to_end]; exact HR4.out.trans (by rw [stripS_yes HS.out])
      case rest =>
      obtain ⟨r5, rfl, hr5, HR5, rfl⟩ := hcut
      clear HR4 HS
      have hl5 := ld_size r5
      have HZ : ld r5.data.toList = 0 → Hid (jn s.data.toList = false) := fun h => HR5.out.trans (jnE_zero h)
      have HN : ¬ ld r5.data.toList = 0 → Hid (jn s.data.toList = (r5.extract (ld r5.data.toList) r5.size).data.toList.isEmpty) := fun h => by
        show jn s.data.toList = (r5.extract (ld r5.data.toList) r5.size).data.toList.isEmpty
        rw [Lib.extract_to_end]; exact HR5.out.trans (jnE_some h)
      clear HR5
      go_wp2_with fail
      refine (ld_c _ _ (small_max hr5)).mono ?_
      rintro e w' ⟨rfl, rfl⟩
      generalize ld r5.data.toList = n at *
      by_cases hn : n = 0
      · have HE := HZ hn
        subst hn
        clear HZ HN
        go_wp2_with fail
        go_ret
        exact ⟨ret_b HE.out.symm, rfl⟩
      · have HE := HN hn
        clear HZ HN
        have en : ((n : Int) == 0) = false := by simp; omega
        go_wp2_with fail
        go_meet
        case rel => exact ⟨_, rfl, HE, rfl⟩
  case rest =>
  obtain ⟨r6, rfl, HR6, rfl⟩ := hcut
  go_wp2_with fail
  go_ret
  exact ⟨ret_b (by rw [isE]; exact HR6.out.symm), rfl⟩

end Go.Proofs.Qxb6603395a.walks
