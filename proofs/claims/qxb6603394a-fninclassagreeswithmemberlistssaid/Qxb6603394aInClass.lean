/-
  The contracts of 'inClass' (15) and 'ZZinClass' (11), for every byte, at each of the twelve names and at any other name.
-/
import Derived.Test.Qxb6603394aRows
import Derived.WalkKit
import Derived.ProofKit
import Derived.OpenShut
import Derived.ShutString
namespace Go.Proofs.Qxb6603394a.inClass
open Go.ChangeShapes Go.WideShapes Go.ChangeAt Go.RowKit
set_option linter.unusedVariables false

theorem ret_two {a b c d : Bool} (h : a = b) (h' : c = d) : Ending.returned (.tuple #[.bool a, .bool c]) = .returned (.tuple #[.bool b, .bool d]) := by rw [h, h']

def isAlnum (c : Int) : Bool := ((decide (97 ≤ c) && decide (c ≤ 122)) || (decide (65 ≤ c) && decide (c ≤ 90))) || (decide (48 ≤ c) && decide (c ≤ 57))
def isAlpha (c : Int) : Bool := (decide (97 ≤ c) && decide (c ≤ 122)) || (decide (65 ≤ c) && decide (c ≤ 90))
def isBlank (c : Int) : Bool := decide (c = 32) || decide (c = 9)
def isCntrl (c : Int) : Bool := decide (c < 32) || decide (c = 127)
def isDigit (c : Int) : Bool := decide (48 ≤ c) && decide (c ≤ 57)
def isGraph (c : Int) : Bool := decide (33 ≤ c) && decide (c ≤ 126)
def isLower (c : Int) : Bool := decide (97 ≤ c) && decide (c ≤ 122)
def isPrint (c : Int) : Bool := (decide (33 ≤ c) && decide (c ≤ 126)) || decide (c = 32)
def isPunct (c : Int) : Bool := (((decide (33 ≤ c) && decide (c ≤ 126)) && !(decide (97 ≤ c) && decide (c ≤ 122))) && !(decide (65 ≤ c) && decide (c ≤ 90))) && !(decide (48 ≤ c) && decide (c ≤ 57))
def isSpace (c : Int) : Bool := ((decide (c = 32) || decide (c = 9)) || decide (c = 10)) || decide (c = 13)
def isUpper (c : Int) : Bool := decide (65 ≤ c) && decide (c ≤ 90)
def isXdigit (c : Int) : Bool := ((decide (48 ≤ c) && decide (c ≤ 57)) || (decide (97 ≤ c) && decide (c ≤ 102))) || (decide (65 ≤ c) && decide (c ≤ 70))

set_option maxRecDepth 100000 in
set_option maxHeartbeats 1000000 in
theorem in_alnum (c : Int) (w : World) :
    Calls Try.prog 15 #[.string ⟨#[97, 108, 110, 117, 109]⟩, .int .u8 c] w fun e w' => e = .returned (.tuple #[.bool (isAlnum c), .bool true]) ∧ w' = w := by
  go_enter Try.func15, Try.ntmps15
  go_wp2
  all_goals
    go_ret2
    refine ⟨ret_two ?_ rfl, rfl⟩
    unfold isAlnum
    rw [Bool.eq_iff_iff]
    simp
    try omega

theorem zz_alnum (c : Int) (w : World) :
    Calls Try.prog 11 #[.string ⟨#[97, 108, 110, 117, 109]⟩, .int .u8 c] w fun e w' => e = .returned (.tuple #[.bool (isAlnum c), .bool true]) ∧ w' = w := by
  go_enter Try.func11, Try.ntmps11
  go_wp2_with (go_at_call 15; refine (in_alnum _ _).mono ?_; rintro e w' ⟨rfl, rfl⟩)
  go_ret2
  exact ⟨rfl, rfl⟩

set_option maxRecDepth 100000 in
set_option maxHeartbeats 1000000 in
theorem in_alpha (c : Int) (w : World) :
    Calls Try.prog 15 #[.string ⟨#[97, 108, 112, 104, 97]⟩, .int .u8 c] w fun e w' => e = .returned (.tuple #[.bool (isAlpha c), .bool true]) ∧ w' = w := by
  go_enter Try.func15, Try.ntmps15
  go_wp2
  all_goals
    go_ret2
    refine ⟨ret_two ?_ rfl, rfl⟩
    unfold isAlpha
    rw [Bool.eq_iff_iff]
    simp
    try omega

theorem zz_alpha (c : Int) (w : World) :
    Calls Try.prog 11 #[.string ⟨#[97, 108, 112, 104, 97]⟩, .int .u8 c] w fun e w' => e = .returned (.tuple #[.bool (isAlpha c), .bool true]) ∧ w' = w := by
  go_enter Try.func11, Try.ntmps11
  go_wp2_with (go_at_call 15; refine (in_alpha _ _).mono ?_; rintro e w' ⟨rfl, rfl⟩)
  go_ret2
  exact ⟨rfl, rfl⟩

set_option maxRecDepth 100000 in
set_option maxHeartbeats 1000000 in
theorem in_blank (c : Int) (w : World) :
    Calls Try.prog 15 #[.string ⟨#[98, 108, 97, 110, 107]⟩, .int .u8 c] w fun e w' => e = .returned (.tuple #[.bool (isBlank c), .bool true]) ∧ w' = w := by
  go_enter Try.func15, Try.ntmps15
  go_wp2
  all_goals
    go_ret2
    refine ⟨ret_two ?_ rfl, rfl⟩
    unfold isBlank
    rw [Bool.eq_iff_iff]
    simp
    try omega

theorem zz_blank (c : Int) (w : World) :
    Calls Try.prog 11 #[.string ⟨#[98, 108, 97, 110, 107]⟩, .int .u8 c] w fun e w' => e = .returned (.tuple #[.bool (isBlank c), .bool true]) ∧ w' = w := by
  go_enter Try.func11, Try.ntmps11
  go_wp2_with (go_at_call 15; refine (in_blank _ _).mono ?_; rintro e w' ⟨rfl, rfl⟩)
  go_ret2
  exact ⟨rfl, rfl⟩

set_option maxRecDepth 100000 in
set_option maxHeartbeats 1000000 in
theorem in_cntrl (c : Int) (w : World) :
    Calls Try.prog 15 #[.string ⟨#[99, 110, 116, 114, 108]⟩, .int .u8 c] w fun e w' => e = .returned (.tuple #[.bool (isCntrl c), .bool true]) ∧ w' = w := by
  go_enter Try.func15, Try.ntmps15
  go_wp2
  all_goals
    go_ret2
    refine ⟨ret_two ?_ rfl, rfl⟩
    unfold isCntrl
    rw [Bool.eq_iff_iff]
    simp
    try omega

theorem zz_cntrl (c : Int) (w : World) :
    Calls Try.prog 11 #[.string ⟨#[99, 110, 116, 114, 108]⟩, .int .u8 c] w fun e w' => e = .returned (.tuple #[.bool (isCntrl c), .bool true]) ∧ w' = w := by
  go_enter Try.func11, Try.ntmps11
  go_wp2_with (go_at_call 15; refine (in_cntrl _ _).mono ?_; rintro e w' ⟨rfl, rfl⟩)
  go_ret2
  exact ⟨rfl, rfl⟩

set_option maxRecDepth 100000 in
set_option maxHeartbeats 1000000 in
theorem in_digit (c : Int) (w : World) :
    Calls Try.prog 15 #[.string ⟨#[100, 105, 103, 105, 116]⟩, .int .u8 c] w fun e w' => e = .returned (.tuple #[.bool (isDigit c), .bool true]) ∧ w' = w := by
  go_enter Try.func15, Try.ntmps15
  go_wp2
  all_goals
    go_ret2
    refine ⟨ret_two ?_ rfl, rfl⟩
    unfold isDigit
    rw [Bool.eq_iff_iff]
    simp
    try omega

theorem zz_digit (c : Int) (w : World) :
    Calls Try.prog 11 #[.string ⟨#[100, 105, 103, 105, 116]⟩, .int .u8 c] w fun e w' => e = .returned (.tuple #[.bool (isDigit c), .bool true]) ∧ w' = w := by
  go_enter Try.func11, Try.ntmps11
  go_wp2_with (go_at_call 15; refine (in_digit _ _).mono ?_; rintro e w' ⟨rfl, rfl⟩)
  go_ret2
  exact ⟨rfl, rfl⟩

set_option maxRecDepth 100000 in
set_option maxHeartbeats 1000000 in
theorem in_graph (c : Int) (w : World) :
    Calls Try.prog 15 #[.string ⟨#[103, 114, 97, 112, 104]⟩, .int .u8 c] w fun e w' => e = .returned (.tuple #[.bool (isGraph c), .bool true]) ∧ w' = w := by
  go_enter Try.func15, Try.ntmps15
  go_wp2
  all_goals
    go_ret2
    refine ⟨ret_two ?_ rfl, rfl⟩
    unfold isGraph
    rw [Bool.eq_iff_iff]
    simp
    try omega

theorem zz_graph (c : Int) (w : World) :
    Calls Try.prog 11 #[.string ⟨#[103, 114, 97, 112, 104]⟩, .int .u8 c] w fun e w' => e = .returned (.tuple #[.bool (isGraph c), .bool true]) ∧ w' = w := by
  go_enter Try.func11, Try.ntmps11
  go_wp2_with (go_at_call 15; refine (in_graph _ _).mono ?_; rintro e w' ⟨rfl, rfl⟩)
  go_ret2
  exact ⟨rfl, rfl⟩

set_option maxRecDepth 100000 in
set_option maxHeartbeats 1000000 in
theorem in_lower (c : Int) (w : World) :
    Calls Try.prog 15 #[.string ⟨#[108, 111, 119, 101, 114]⟩, .int .u8 c] w fun e w' => e = .returned (.tuple #[.bool (isLower c), .bool true]) ∧ w' = w := by
  go_enter Try.func15, Try.ntmps15
  go_wp2
  all_goals
    go_ret2
    refine ⟨ret_two ?_ rfl, rfl⟩
    unfold isLower
    rw [Bool.eq_iff_iff]
    simp
    try omega

theorem zz_lower (c : Int) (w : World) :
    Calls Try.prog 11 #[.string ⟨#[108, 111, 119, 101, 114]⟩, .int .u8 c] w fun e w' => e = .returned (.tuple #[.bool (isLower c), .bool true]) ∧ w' = w := by
  go_enter Try.func11, Try.ntmps11
  go_wp2_with (go_at_call 15; refine (in_lower _ _).mono ?_; rintro e w' ⟨rfl, rfl⟩)
  go_ret2
  exact ⟨rfl, rfl⟩

set_option maxRecDepth 100000 in
set_option maxHeartbeats 1000000 in
theorem in_print (c : Int) (w : World) :
    Calls Try.prog 15 #[.string ⟨#[112, 114, 105, 110, 116]⟩, .int .u8 c] w fun e w' => e = .returned (.tuple #[.bool (isPrint c), .bool true]) ∧ w' = w := by
  go_enter Try.func15, Try.ntmps15
  go_wp2
  all_goals
    go_ret2
    refine ⟨ret_two ?_ rfl, rfl⟩
    unfold isPrint
    rw [Bool.eq_iff_iff]
    simp
    try omega

theorem zz_print (c : Int) (w : World) :
    Calls Try.prog 11 #[.string ⟨#[112, 114, 105, 110, 116]⟩, .int .u8 c] w fun e w' => e = .returned (.tuple #[.bool (isPrint c), .bool true]) ∧ w' = w := by
  go_enter Try.func11, Try.ntmps11
  go_wp2_with (go_at_call 15; refine (in_print _ _).mono ?_; rintro e w' ⟨rfl, rfl⟩)
  go_ret2
  exact ⟨rfl, rfl⟩

set_option maxRecDepth 100000 in
set_option maxHeartbeats 1000000 in
theorem in_punct (c : Int) (w : World) :
    Calls Try.prog 15 #[.string ⟨#[112, 117, 110, 99, 116]⟩, .int .u8 c] w fun e w' => e = .returned (.tuple #[.bool (isPunct c), .bool true]) ∧ w' = w := by
  go_enter Try.func15, Try.ntmps15
  go_wp2
  all_goals
    go_ret2
    refine ⟨ret_two ?_ rfl, rfl⟩
    unfold isPunct
    rw [Bool.eq_iff_iff]
    simp
    try omega

theorem zz_punct (c : Int) (w : World) :
    Calls Try.prog 11 #[.string ⟨#[112, 117, 110, 99, 116]⟩, .int .u8 c] w fun e w' => e = .returned (.tuple #[.bool (isPunct c), .bool true]) ∧ w' = w := by
  go_enter Try.func11, Try.ntmps11
  go_wp2_with (go_at_call 15; refine (in_punct _ _).mono ?_; rintro e w' ⟨rfl, rfl⟩)
  go_ret2
  exact ⟨rfl, rfl⟩

set_option maxRecDepth 100000 in
set_option maxHeartbeats 1000000 in
theorem in_space (c : Int) (w : World) :
    Calls Try.prog 15 #[.string ⟨#[115, 112, 97, 99, 101]⟩, .int .u8 c] w fun e w' => e = .returned (.tuple #[.bool (isSpace c), .bool true]) ∧ w' = w := by
  go_enter Try.func15, Try.ntmps15
  go_wp2
  all_goals
    go_ret2
    refine ⟨ret_two ?_ rfl, rfl⟩
    unfold isSpace
    rw [Bool.eq_iff_iff]
    simp
    try omega

theorem zz_space (c : Int) (w : World) :
    Calls Try.prog 11 #[.string ⟨#[115, 112, 97, 99, 101]⟩, .int .u8 c] w fun e w' => e = .returned (.tuple #[.bool (isSpace c), .bool true]) ∧ w' = w := by
  go_enter Try.func11, Try.ntmps11
  go_wp2_with (go_at_call 15; refine (in_space _ _).mono ?_; rintro e w' ⟨rfl, rfl⟩)
  go_ret2
  exact ⟨rfl, rfl⟩

set_option maxRecDepth 100000 in
set_option maxHeartbeats 1000000 in
theorem in_upper (c : Int) (w : World) :
    Calls Try.prog 15 #[.string ⟨#[117, 112, 112, 101, 114]⟩, .int .u8 c] w fun e w' => e = .returned (.tuple #[.bool (isUpper c), .bool true]) ∧ w' = w := by
  go_enter Try.func15, Try.ntmps15
  go_wp2
  all_goals
    go_ret2
    refine ⟨ret_two ?_ rfl, rfl⟩
    unfold isUpper
    rw [Bool.eq_iff_iff]
    simp
    try omega

theorem zz_upper (c : Int) (w : World) :
    Calls Try.prog 11 #[.string ⟨#[117, 112, 112, 101, 114]⟩, .int .u8 c] w fun e w' => e = .returned (.tuple #[.bool (isUpper c), .bool true]) ∧ w' = w := by
  go_enter Try.func11, Try.ntmps11
  go_wp2_with (go_at_call 15; refine (in_upper _ _).mono ?_; rintro e w' ⟨rfl, rfl⟩)
  go_ret2
  exact ⟨rfl, rfl⟩

set_option maxRecDepth 100000 in
set_option maxHeartbeats 1000000 in
theorem in_xdigit (c : Int) (w : World) :
    Calls Try.prog 15 #[.string ⟨#[120, 100, 105, 103, 105, 116]⟩, .int .u8 c] w fun e w' => e = .returned (.tuple #[.bool (isXdigit c), .bool true]) ∧ w' = w := by
  go_enter Try.func15, Try.ntmps15
  go_wp2
  all_goals
    go_ret2
    refine ⟨ret_two ?_ rfl, rfl⟩
    unfold isXdigit
    rw [Bool.eq_iff_iff]
    simp
    try omega

theorem zz_xdigit (c : Int) (w : World) :
    Calls Try.prog 11 #[.string ⟨#[120, 100, 105, 103, 105, 116]⟩, .int .u8 c] w fun e w' => e = .returned (.tuple #[.bool (isXdigit c), .bool true]) ∧ w' = w := by
  go_enter Try.func11, Try.ntmps11
  go_wp2_with (go_at_call 15; refine (in_xdigit _ _).mono ?_; rintro e w' ⟨rfl, rfl⟩)
  go_ret2
  exact ⟨rfl, rfl⟩

end Go.Proofs.Qxb6603394a.inClass
