/-
  The law FnInClassAgreesWithMemberLists: a walk for each of the twelve names, one for any other name, two for a long name.
-/
import Derived.Test.Qxb6603394aMembers
namespace Go.Proofs.Qxb6603394a.inClass
open Go.ChangeShapes Go.WideShapes Go.ChangeAt Go.RowKit
set_option linter.unusedVariables false

theorem bytes_yes (a : ByteArray) (c : Int) (w : World) (h : a.size ≤ 65536) :
    Calls Try.prog 10 #[.string a, .int .u8 c] w fun e w' => e = .returned (.bool true) ∧ w' = w := by
  go_enter Try.func10, Try.ntmps10
  go_wp2
  go_ret
  exact ⟨rfl, rfl⟩

theorem law_long (a : ByteArray) (c : Int) (w : World) (hs : a.size ≤ maxLen) (h : 65536 < a.size) :
    Calls Try.prog 5 #[.string a, .int .u8 c] w fun e w' => e = .returned (.bool true) ∧ w' = w := by
  unfold maxLen at hs
  by_cases h2 : 1048576 < a.size
  · go_enter Try.func5, Try.ntmps5
    go_wp2
    go_ret
    exact ⟨rfl, rfl⟩
  · go_enter Try.func5, Try.ntmps5
    go_wp2
    go_ret
    exact ⟨rfl, rfl⟩

set_option maxRecDepth 100000 in
set_option maxHeartbeats 1000000 in
theorem law_alnum (c : Int) (w : World) (h0 : 0 ≤ c) (h1 : c ≤ 255) :
    Calls Try.prog 5 #[.string ⟨#[97, 108, 110, 117, 109]⟩, .int .u8 c] w fun e w' => e = .returned (.bool true) ∧ w' = w := by
  have HA : Hid (isAlnum c = hasB memAlnum.data.toList c) := agreeAlnum c h0 h1
  go_enter Try.func5, Try.ntmps5
  go_wp2_with fail
  refine (bytes_yes _ _ _ (by decide)).mono ?_
  rintro e w' ⟨rfl, rfl⟩
  go_wp2_with fail
  refine (zz_alnum _ _).mono ?_
  rintro e w' ⟨rfl, rfl⟩
  go_wp2_with fail
  refine (members_alnum _).mono ?_
  rintro e w' ⟨rfl, rfl⟩
  go_wp2_with fail
  refine (has_any memAlnum c _ sizeAlnum).mono ?_
  rintro e w' ⟨rfl, rfl⟩
  go_wp2
  go_ret
  exact ⟨ret_b (by rw [HA.out]; simp), rfl⟩

set_option maxRecDepth 100000 in
set_option maxHeartbeats 1000000 in
theorem law_alpha (c : Int) (w : World) (h0 : 0 ≤ c) (h1 : c ≤ 255) :
    Calls Try.prog 5 #[.string ⟨#[97, 108, 112, 104, 97]⟩, .int .u8 c] w fun e w' => e = .returned (.bool true) ∧ w' = w := by
  have HA : Hid (isAlpha c = hasB memAlpha.data.toList c) := agreeAlpha c h0 h1
  go_enter Try.func5, Try.ntmps5
  go_wp2_with fail
  refine (bytes_yes _ _ _ (by decide)).mono ?_
  rintro e w' ⟨rfl, rfl⟩
  go_wp2_with fail
  refine (zz_alpha _ _).mono ?_
  rintro e w' ⟨rfl, rfl⟩
  go_wp2_with fail
  refine (members_alpha _).mono ?_
  rintro e w' ⟨rfl, rfl⟩
  go_wp2_with fail
  refine (has_any memAlpha c _ sizeAlpha).mono ?_
  rintro e w' ⟨rfl, rfl⟩
  go_wp2
  go_ret
  exact ⟨ret_b (by rw [HA.out]; simp), rfl⟩

set_option maxRecDepth 100000 in
set_option maxHeartbeats 1000000 in
theorem law_blank (c : Int) (w : World) (h0 : 0 ≤ c) (h1 : c ≤ 255) :
    Calls Try.prog 5 #[.string ⟨#[98, 108, 97, 110, 107]⟩, .int .u8 c] w fun e w' => e = .returned (.bool true) ∧ w' = w := by
  have HA : Hid (isBlank c = hasB memBlank.data.toList c) := agreeBlank c h0 h1
  go_enter Try.func5, Try.ntmps5
  go_wp2_with fail
  refine (bytes_yes _ _ _ (by decide)).mono ?_
  rintro e w' ⟨rfl, rfl⟩
  go_wp2_with fail
  refine (zz_blank _ _).mono ?_
  rintro e w' ⟨rfl, rfl⟩
  go_wp2_with fail
  refine (members_blank _).mono ?_
  rintro e w' ⟨rfl, rfl⟩
  go_wp2_with fail
  refine (has_any memBlank c _ sizeBlank).mono ?_
  rintro e w' ⟨rfl, rfl⟩
  go_wp2
  go_ret
  exact ⟨ret_b (by rw [HA.out]; simp), rfl⟩

set_option maxRecDepth 100000 in
set_option maxHeartbeats 1000000 in
theorem law_cntrl (c : Int) (w : World) (h0 : 0 ≤ c) (h1 : c ≤ 255) :
    Calls Try.prog 5 #[.string ⟨#[99, 110, 116, 114, 108]⟩, .int .u8 c] w fun e w' => e = .returned (.bool true) ∧ w' = w := by
  have HA : Hid (isCntrl c = hasB memCntrl.data.toList c) := agreeCntrl c h0 h1
  go_enter Try.func5, Try.ntmps5
  go_wp2_with fail
  refine (bytes_yes _ _ _ (by decide)).mono ?_
  rintro e w' ⟨rfl, rfl⟩
  go_wp2_with fail
  refine (zz_cntrl _ _).mono ?_
  rintro e w' ⟨rfl, rfl⟩
  go_wp2_with fail
  refine (members_cntrl _).mono ?_
  rintro e w' ⟨rfl, rfl⟩
  go_wp2_with fail
  refine (has_any memCntrl c _ sizeCntrl).mono ?_
  rintro e w' ⟨rfl, rfl⟩
  go_wp2
  go_ret
  exact ⟨ret_b (by rw [HA.out]; simp), rfl⟩

set_option maxRecDepth 100000 in
set_option maxHeartbeats 1000000 in
theorem law_digit (c : Int) (w : World) (h0 : 0 ≤ c) (h1 : c ≤ 255) :
    Calls Try.prog 5 #[.string ⟨#[100, 105, 103, 105, 116]⟩, .int .u8 c] w fun e w' => e = .returned (.bool true) ∧ w' = w := by
  have HA : Hid (isDigit c = hasB memDigit.data.toList c) := agreeDigit c h0 h1
  go_enter Try.func5, Try.ntmps5
  go_wp2_with fail
  refine (bytes_yes _ _ _ (by decide)).mono ?_
  rintro e w' ⟨rfl, rfl⟩
  go_wp2_with fail
  refine (zz_digit _ _).mono ?_
  rintro e w' ⟨rfl, rfl⟩
  go_wp2_with fail
  refine (members_digit _).mono ?_
  rintro e w' ⟨rfl, rfl⟩
  go_wp2_with fail
  refine (has_any memDigit c _ sizeDigit).mono ?_
  rintro e w' ⟨rfl, rfl⟩
  go_wp2
  go_ret
  exact ⟨ret_b (by rw [HA.out]; simp), rfl⟩

set_option maxRecDepth 100000 in
set_option maxHeartbeats 1000000 in
theorem law_graph (c : Int) (w : World) (h0 : 0 ≤ c) (h1 : c ≤ 255) :
    Calls Try.prog 5 #[.string ⟨#[103, 114, 97, 112, 104]⟩, .int .u8 c] w fun e w' => e = .returned (.bool true) ∧ w' = w := by
  have HA : Hid (isGraph c = hasB memGraph.data.toList c) := agreeGraph c h0 h1
  go_enter Try.func5, Try.ntmps5
  go_wp2_with fail
  refine (bytes_yes _ _ _ (by decide)).mono ?_
  rintro e w' ⟨rfl, rfl⟩
  go_wp2_with fail
  refine (zz_graph _ _).mono ?_
  rintro e w' ⟨rfl, rfl⟩
  go_wp2_with fail
  refine (members_graph _).mono ?_
  rintro e w' ⟨rfl, rfl⟩
  go_wp2_with fail
  refine (has_any memGraph c _ sizeGraph).mono ?_
  rintro e w' ⟨rfl, rfl⟩
  go_wp2
  go_ret
  exact ⟨ret_b (by rw [HA.out]; simp), rfl⟩

set_option maxRecDepth 100000 in
set_option maxHeartbeats 1000000 in
theorem law_lower (c : Int) (w : World) (h0 : 0 ≤ c) (h1 : c ≤ 255) :
    Calls Try.prog 5 #[.string ⟨#[108, 111, 119, 101, 114]⟩, .int .u8 c] w fun e w' => e = .returned (.bool true) ∧ w' = w := by
  have HA : Hid (isLower c = hasB memLower.data.toList c) := agreeLower c h0 h1
  go_enter Try.func5, Try.ntmps5
  go_wp2_with fail
  refine (bytes_yes _ _ _ (by decide)).mono ?_
  rintro e w' ⟨rfl, rfl⟩
  go_wp2_with fail
  refine (zz_lower _ _).mono ?_
  rintro e w' ⟨rfl, rfl⟩
  go_wp2_with fail
  refine (members_lower _).mono ?_
  rintro e w' ⟨rfl, rfl⟩
  go_wp2_with fail
  refine (has_any memLower c _ sizeLower).mono ?_
  rintro e w' ⟨rfl, rfl⟩
  go_wp2
  go_ret
  exact ⟨ret_b (by rw [HA.out]; simp), rfl⟩

set_option maxRecDepth 100000 in
set_option maxHeartbeats 1000000 in
theorem law_print (c : Int) (w : World) (h0 : 0 ≤ c) (h1 : c ≤ 255) :
    Calls Try.prog 5 #[.string ⟨#[112, 114, 105, 110, 116]⟩, .int .u8 c] w fun e w' => e = .returned (.bool true) ∧ w' = w := by
  have HA : Hid (isPrint c = hasB memPrint.data.toList c) := agreePrint c h0 h1
  go_enter Try.func5, Try.ntmps5
  go_wp2_with fail
  refine (bytes_yes _ _ _ (by decide)).mono ?_
  rintro e w' ⟨rfl, rfl⟩
  go_wp2_with fail
  refine (zz_print _ _).mono ?_
  rintro e w' ⟨rfl, rfl⟩
  go_wp2_with fail
  refine (members_print _).mono ?_
  rintro e w' ⟨rfl, rfl⟩
  go_wp2_with fail
  refine (has_any memPrint c _ sizePrint).mono ?_
  rintro e w' ⟨rfl, rfl⟩
  go_wp2
  go_ret
  exact ⟨ret_b (by rw [HA.out]; simp), rfl⟩

set_option maxRecDepth 100000 in
set_option maxHeartbeats 1000000 in
theorem law_punct (c : Int) (w : World) (h0 : 0 ≤ c) (h1 : c ≤ 255) :
    Calls Try.prog 5 #[.string ⟨#[112, 117, 110, 99, 116]⟩, .int .u8 c] w fun e w' => e = .returned (.bool true) ∧ w' = w := by
  have HA : Hid (isPunct c = hasB memPunct.data.toList c) := agreePunct c h0 h1
  go_enter Try.func5, Try.ntmps5
  go_wp2_with fail
  refine (bytes_yes _ _ _ (by decide)).mono ?_
  rintro e w' ⟨rfl, rfl⟩
  go_wp2_with fail
  refine (zz_punct _ _).mono ?_
  rintro e w' ⟨rfl, rfl⟩
  go_wp2_with fail
  refine (members_punct _).mono ?_
  rintro e w' ⟨rfl, rfl⟩
  go_wp2_with fail
  refine (has_any memPunct c _ sizePunct).mono ?_
  rintro e w' ⟨rfl, rfl⟩
  go_wp2
  go_ret
  exact ⟨ret_b (by rw [HA.out]; simp), rfl⟩

set_option maxRecDepth 100000 in
set_option maxHeartbeats 1000000 in
theorem law_space (c : Int) (w : World) (h0 : 0 ≤ c) (h1 : c ≤ 255) :
    Calls Try.prog 5 #[.string ⟨#[115, 112, 97, 99, 101]⟩, .int .u8 c] w fun e w' => e = .returned (.bool true) ∧ w' = w := by
  have HA : Hid (isSpace c = hasB memSpace.data.toList c) := agreeSpace c h0 h1
  go_enter Try.func5, Try.ntmps5
  go_wp2_with fail
  refine (bytes_yes _ _ _ (by decide)).mono ?_
  rintro e w' ⟨rfl, rfl⟩
  go_wp2_with fail
  refine (zz_space _ _).mono ?_
  rintro e w' ⟨rfl, rfl⟩
  go_wp2_with fail
  refine (members_space _).mono ?_
  rintro e w' ⟨rfl, rfl⟩
  go_wp2_with fail
  refine (has_any memSpace c _ sizeSpace).mono ?_
  rintro e w' ⟨rfl, rfl⟩
  go_wp2
  go_ret
  exact ⟨ret_b (by rw [HA.out]; simp), rfl⟩

set_option maxRecDepth 100000 in
set_option maxHeartbeats 1000000 in
theorem law_upper (c : Int) (w : World) (h0 : 0 ≤ c) (h1 : c ≤ 255) :
    Calls Try.prog 5 #[.string ⟨#[117, 112, 112, 101, 114]⟩, .int .u8 c] w fun e w' => e = .returned (.bool true) ∧ w' = w := by
  have HA : Hid (isUpper c = hasB memUpper.data.toList c) := agreeUpper c h0 h1
  go_enter Try.func5, Try.ntmps5
  go_wp2_with fail
  refine (bytes_yes _ _ _ (by decide)).mono ?_
  rintro e w' ⟨rfl, rfl⟩
  go_wp2_with fail
  refine (zz_upper _ _).mono ?_
  rintro e w' ⟨rfl, rfl⟩
  go_wp2_with fail
  refine (members_upper _).mono ?_
  rintro e w' ⟨rfl, rfl⟩
  go_wp2_with fail
  refine (has_any memUpper c _ sizeUpper).mono ?_
  rintro e w' ⟨rfl, rfl⟩
  go_wp2
  go_ret
  exact ⟨ret_b (by rw [HA.out]; simp), rfl⟩

set_option maxRecDepth 100000 in
set_option maxHeartbeats 1000000 in
theorem law_xdigit (c : Int) (w : World) (h0 : 0 ≤ c) (h1 : c ≤ 255) :
    Calls Try.prog 5 #[.string ⟨#[120, 100, 105, 103, 105, 116]⟩, .int .u8 c] w fun e w' => e = .returned (.bool true) ∧ w' = w := by
  have HA : Hid (isXdigit c = hasB memXdigit.data.toList c) := agreeXdigit c h0 h1
  go_enter Try.func5, Try.ntmps5
  go_wp2_with fail
  refine (bytes_yes _ _ _ (by decide)).mono ?_
  rintro e w' ⟨rfl, rfl⟩
  go_wp2_with fail
  refine (zz_xdigit _ _).mono ?_
  rintro e w' ⟨rfl, rfl⟩
  go_wp2_with fail
  refine (members_xdigit _).mono ?_
  rintro e w' ⟨rfl, rfl⟩
  go_wp2_with fail
  refine (has_any memXdigit c _ sizeXdigit).mono ?_
  rintro e w' ⟨rfl, rfl⟩
  go_wp2
  go_ret
  exact ⟨ret_b (by rw [HA.out]; simp), rfl⟩

set_option maxRecDepth 100000 in
set_option maxHeartbeats 1000000 in
theorem law_other (a : ByteArray) (c : Int) (w : World) (hs : a.size ≤ 65536) (h_alnum : (a.toList == [97, 108, 110, 117, 109]) = false) (h_alpha : (a.toList == [97, 108, 112, 104, 97]) = false) (h_blank : (a.toList == [98, 108, 97, 110, 107]) = false) (h_cntrl : (a.toList == [99, 110, 116, 114, 108]) = false) (h_digit : (a.toList == [100, 105, 103, 105, 116]) = false) (h_graph : (a.toList == [103, 114, 97, 112, 104]) = false) (h_lower : (a.toList == [108, 111, 119, 101, 114]) = false) (h_print : (a.toList == [112, 114, 105, 110, 116]) = false) (h_punct : (a.toList == [112, 117, 110, 99, 116]) = false) (h_space : (a.toList == [115, 112, 97, 99, 101]) = false) (h_upper : (a.toList == [117, 112, 112, 101, 114]) = false) (h_xdigit : (a.toList == [120, 100, 105, 103, 105, 116]) = false) :
    Calls Try.prog 5 #[.string a, .int .u8 c] w fun e w' => e = .returned (.bool true) ∧ w' = w := by
  go_enter Try.func5, Try.ntmps5
  go_wp2_with fail
  refine (bytes_yes _ _ _ hs).mono ?_
  rintro e w' ⟨rfl, rfl⟩
  go_wp2_with fail
  refine (zz_other a c _ h_alnum h_alpha h_blank h_cntrl h_digit h_graph h_lower h_print h_punct h_space h_upper h_xdigit).mono ?_
  rintro e w' ⟨rfl, rfl⟩
  go_wp2_with fail
  refine (members_other a _ h_alnum h_alpha h_blank h_cntrl h_digit h_graph h_lower h_print h_punct h_space h_upper h_xdigit).mono ?_
  rintro e w' ⟨rfl, rfl⟩
  go_wp2
  go_ret
  exact ⟨rfl, rfl⟩

theorem of_toList {a : ByteArray} {l : Array UInt8} (h : a.toList == l.toList) : a = ⟨l⟩ := by
  have e : a.toList = l.toList := by simpa using h
  have e2 : a.data.toList = l.toList := by rw [← e]; exact (ByteArray.toList_eq a).symm
  cases a with
  | mk d => congr; exact Array.toList_inj.mp e2

theorem law_any (a : ByteArray) (c : Int) (w : World) (hs : a.size ≤ maxLen) (h0 : 0 ≤ c) (h1 : c ≤ 255) :
    Calls Try.prog 5 #[.string a, .int .u8 c] w fun e w' => e = .returned (.bool true) ∧ w' = w := by
  by_cases hl : 65536 < a.size
  · exact law_long a c w hs hl
  by_cases h_alnum : (a.toList == [97, 108, 110, 117, 109]) = true
  · rw [of_toList (l := #[97, 108, 110, 117, 109]) h_alnum]; exact law_alnum c w h0 h1
  by_cases h_alpha : (a.toList == [97, 108, 112, 104, 97]) = true
  · rw [of_toList (l := #[97, 108, 112, 104, 97]) h_alpha]; exact law_alpha c w h0 h1
  by_cases h_blank : (a.toList == [98, 108, 97, 110, 107]) = true
  · rw [of_toList (l := #[98, 108, 97, 110, 107]) h_blank]; exact law_blank c w h0 h1
  by_cases h_cntrl : (a.toList == [99, 110, 116, 114, 108]) = true
  · rw [of_toList (l := #[99, 110, 116, 114, 108]) h_cntrl]; exact law_cntrl c w h0 h1
  by_cases h_digit : (a.toList == [100, 105, 103, 105, 116]) = true
  · rw [of_toList (l := #[100, 105, 103, 105, 116]) h_digit]; exact law_digit c w h0 h1
  by_cases h_graph : (a.toList == [103, 114, 97, 112, 104]) = true
  · rw [of_toList (l := #[103, 114, 97, 112, 104]) h_graph]; exact law_graph c w h0 h1
  by_cases h_lower : (a.toList == [108, 111, 119, 101, 114]) = true
  · rw [of_toList (l := #[108, 111, 119, 101, 114]) h_lower]; exact law_lower c w h0 h1
  by_cases h_print : (a.toList == [112, 114, 105, 110, 116]) = true
  · rw [of_toList (l := #[112, 114, 105, 110, 116]) h_print]; exact law_print c w h0 h1
  by_cases h_punct : (a.toList == [112, 117, 110, 99, 116]) = true
  · rw [of_toList (l := #[112, 117, 110, 99, 116]) h_punct]; exact law_punct c w h0 h1
  by_cases h_space : (a.toList == [115, 112, 97, 99, 101]) = true
  · rw [of_toList (l := #[115, 112, 97, 99, 101]) h_space]; exact law_space c w h0 h1
  by_cases h_upper : (a.toList == [117, 112, 112, 101, 114]) = true
  · rw [of_toList (l := #[117, 112, 112, 101, 114]) h_upper]; exact law_upper c w h0 h1
  by_cases h_xdigit : (a.toList == [120, 100, 105, 103, 105, 116]) = true
  · rw [of_toList (l := #[120, 100, 105, 103, 105, 116]) h_xdigit]; exact law_xdigit c w h0 h1
  exact law_other a c w (by omega) (Bool.eq_false_iff.mpr h_alnum) (Bool.eq_false_iff.mpr h_alpha) (Bool.eq_false_iff.mpr h_blank) (Bool.eq_false_iff.mpr h_cntrl) (Bool.eq_false_iff.mpr h_digit) (Bool.eq_false_iff.mpr h_graph) (Bool.eq_false_iff.mpr h_lower) (Bool.eq_false_iff.mpr h_print) (Bool.eq_false_iff.mpr h_punct) (Bool.eq_false_iff.mpr h_space) (Bool.eq_false_iff.mpr h_upper) (Bool.eq_false_iff.mpr h_xdigit)
end Go.Proofs.Qxb6603394a.inClass
