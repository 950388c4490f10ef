/-
  The contracts of 'zzIgB1HasByte' (13), 'zzIgB1ClassMembers' (12), and of 'inClass' at any other name.
-/
import Derived.Test.Qxb6603394aInClass
namespace Go.Proofs.Qxb6603394a.inClass
open Go.ChangeShapes Go.WideShapes Go.ChangeAt Go.RowKit
set_option linter.unusedVariables false

/-! ### The plain function -/
def hasB (l : List UInt8) (c : Int) : Bool := l.any fun b => ((b.toNat : Nat) : Int) == c

theorem ret_b {a b : Bool} (h : a = b) : Ending.returned (.bool a) = .returned (.bool b) := by rw [h]

theorem take_snoc (s : ByteArray) (k : Nat) (h : k < s.size) : s.data.toList.take (k + 1) = s.data.toList.take k ++ [s[k]] := by
  rw [List.take_succ_eq_append_getElem (by simpa using h)]; rfl

theorem hasB_snoc (l : List UInt8) (b : UInt8) (c : Int) : hasB (l ++ [b]) c = (hasB l c || ((b.toNat : Nat) : Int) == c) := by
  unfold hasB; simp

theorem hasB_take (s : ByteArray) (k : Nat) (c : Int) (h : hasB (s.data.toList.take k) c = true) : hasB s.data.toList c = true := by
  unfold hasB at *
  rw [List.any_eq_true] at *
  obtain ⟨x, hx, hp⟩ := h
  exact ⟨x, List.mem_of_mem_take hx, hp⟩

set_option maxHeartbeats 400000 in
theorem has_any (s : ByteArray) (c : Int) (w : World) (hs : s.size ≤ maxLen) :
    Calls Try.prog 13 #[.string s, .int .u8 c] w fun e w' => e = .returned (.bool (hasB s.data.toList c)) ∧ w' = w := by
  unfold maxLen at hs
  go_enter Try.func13, Try.ntmps13
  go_wp2
  go_loop [5] (fun i => ∃ k : Nat, k ≤ s.size ∧ i = .int .i64 k ∧ Hid (hasB (s.data.toList.take k) c = false)) (fun i => s.size - (intOf i).toNat)
  case atStart => exact ⟨0, Nat.zero_le _, rfl, by show hasB (s.data.toList.take 0) c = false; simp [hasB]⟩
  case round =>
    obtain ⟨k, hk, rfl, hno⟩ := hrel
    by_cases hlt : k < s.size
    · have HS : Hid (hasB (s.data.toList.take (k + 1)) c = (hasB (s.data.toList.take k) c || ((s[k].toNat : Nat) : Int) == c)) := by
        show hasB (s.data.toList.take (k + 1)) c = (hasB (s.data.toList.take k) c || ((s[k].toNat : Nat) : Int) == c)
        rw [take_snoc s k hlt, hasB_snoc]
      by_cases he : (((s[k].toNat : Nat) : Int) == c) = true
      · go_wp2
        go_ret
        have e := HS.out
        rw [he, Bool.or_true] at e
        exact ⟨ret_b (hasB_take s (k + 1) c e).symm, rfl⟩
      · have he' : (((s[k].toNat : Nat) : Int) == c) = false := by simpa using he
        clear he
        go_wp2
        go_round
        case rel =>
          have e := HS.out
          rw [he', hno.out] at e
          exact ⟨k + 1, by omega, by go_num, e⟩
        case measure => simp [intOf]; omega
    · go_wp2
      go_ret
      have e := hno.out
      rw [List.take_of_length_le (by simp; omega)] at e
      exact ⟨ret_b e.symm, rfl⟩

theorem ret_sb {a b : ByteArray} {c d : Bool} (h : a = b) (h' : c = d) : Ending.returned (.tuple #[.string a, .bool c]) = .returned (.tuple #[.string b, .bool d]) := by rw [h, h']

def memAlnum : ByteArray := ⟨#[97, 98, 99, 100, 101, 102, 103, 104, 105, 106, 107, 108, 109, 110, 111, 112, 113, 114, 115, 116, 117, 118, 119, 120, 121, 122, 65, 66, 67, 68, 69, 70, 71, 72, 73, 74, 75, 76, 77, 78, 79, 80, 81, 82, 83, 84, 85, 86, 87, 88, 89, 90, 48, 49, 50, 51, 52, 53, 54, 55, 56, 57]⟩
set_option maxRecDepth 100000 in
theorem sizeAlnum : memAlnum.size ≤ maxLen := by
  decide +kernel
set_option maxRecDepth 100000 in
theorem agreeAlnum_fin : ∀ n : Fin 256, isAlnum ((n.val : Nat) : Int) = hasB [97, 98, 99, 100, 101, 102, 103, 104, 105, 106, 107, 108, 109, 110, 111, 112, 113, 114, 115, 116, 117, 118, 119, 120, 121, 122, 65, 66, 67, 68, 69, 70, 71, 72, 73, 74, 75, 76, 77, 78, 79, 80, 81, 82, 83, 84, 85, 86, 87, 88, 89, 90, 48, 49, 50, 51, 52, 53, 54, 55, 56, 57] ((n.val : Nat) : Int) := by
  decide +kernel
theorem agreeAlnum (c : Int) (h0 : 0 ≤ c) (h1 : c ≤ 255) : isAlnum c = hasB memAlnum.data.toList c := by
  have h := agreeAlnum_fin ⟨c.toNat, by omega⟩
  have e : ((c.toNat : Nat) : Int) = c := by omega
  simp only [e] at h
  exact h
set_option maxRecDepth 100000 in
set_option maxHeartbeats 1000000 in
theorem members_alnum (w : World) :
    Calls Try.prog 12 #[.string ⟨#[97, 108, 110, 117, 109]⟩] w fun e w' => e = .returned (.tuple #[.string memAlnum, .bool true]) ∧ w' = w := by
  go_enter Try.func12, Try.ntmps12
  go_wp2
  go_ret2
  exact ⟨rfl, rfl⟩

def memAlpha : ByteArray := ⟨#[97, 98, 99, 100, 101, 102, 103, 104, 105, 106, 107, 108, 109, 110, 111, 112, 113, 114, 115, 116, 117, 118, 119, 120, 121, 122, 65, 66, 67, 68, 69, 70, 71, 72, 73, 74, 75, 76, 77, 78, 79, 80, 81, 82, 83, 84, 85, 86, 87, 88, 89, 90]⟩
set_option maxRecDepth 100000 in
theorem sizeAlpha : memAlpha.size ≤ maxLen := by
  decide +kernel
set_option maxRecDepth 100000 in
theorem agreeAlpha_fin : ∀ n : Fin 256, isAlpha ((n.val : Nat) : Int) = hasB [97, 98, 99, 100, 101, 102, 103, 104, 105, 106, 107, 108, 109, 110, 111, 112, 113, 114, 115, 116, 117, 118, 119, 120, 121, 122, 65, 66, 67, 68, 69, 70, 71, 72, 73, 74, 75, 76, 77, 78, 79, 80, 81, 82, 83, 84, 85, 86, 87, 88, 89, 90] ((n.val : Nat) : Int) := by
  decide +kernel
theorem agreeAlpha (c : Int) (h0 : 0 ≤ c) (h1 : c ≤ 255) : isAlpha c = hasB memAlpha.data.toList c := by
  have h := agreeAlpha_fin ⟨c.toNat, by omega⟩
  have e : ((c.toNat : Nat) : Int) = c := by omega
  simp only [e] at h
  exact h
set_option maxRecDepth 100000 in
set_option maxHeartbeats 1000000 in
theorem members_alpha (w : World) :
    Calls Try.prog 12 #[.string ⟨#[97, 108, 112, 104, 97]⟩] w fun e w' => e = .returned (.tuple #[.string memAlpha, .bool true]) ∧ w' = w := by
  go_enter Try.func12, Try.ntmps12
  go_wp2
  go_ret2
  exact ⟨rfl, rfl⟩

def memBlank : ByteArray := ⟨#[32, 9]⟩
set_option maxRecDepth 100000 in
theorem sizeBlank : memBlank.size ≤ maxLen := by
  decide +kernel
set_option maxRecDepth 100000 in
theorem agreeBlank_fin : ∀ n : Fin 256, isBlank ((n.val : Nat) : Int) = hasB [32, 9] ((n.val : Nat) : Int) := by
  decide +kernel
theorem agreeBlank (c : Int) (h0 : 0 ≤ c) (h1 : c ≤ 255) : isBlank c = hasB memBlank.data.toList c := by
  have h := agreeBlank_fin ⟨c.toNat, by omega⟩
  have e : ((c.toNat : Nat) : Int) = c := by omega
  simp only [e] at h
  exact h
set_option maxRecDepth 100000 in
set_option maxHeartbeats 1000000 in
theorem members_blank (w : World) :
    Calls Try.prog 12 #[.string ⟨#[98, 108, 97, 110, 107]⟩] w fun e w' => e = .returned (.tuple #[.string memBlank, .bool true]) ∧ w' = w := by
  go_enter Try.func12, Try.ntmps12
  go_wp2
  go_ret2
  exact ⟨rfl, rfl⟩

def memCntrl : ByteArray := ⟨#[0, 1, 2, 3, 4, 5, 6, 7, 8, 9, 10, 11, 12, 13, 14, 15, 16, 17, 18, 19, 20, 21, 22, 23, 24, 25, 26, 27, 28, 29, 30, 31, 127]⟩
set_option maxRecDepth 100000 in
theorem sizeCntrl : memCntrl.size ≤ maxLen := by
  decide +kernel
set_option maxRecDepth 100000 in
theorem agreeCntrl_fin : ∀ n : Fin 256, isCntrl ((n.val : Nat) : Int) = hasB [0, 1, 2, 3, 4, 5, 6, 7, 8, 9, 10, 11, 12, 13, 14, 15, 16, 17, 18, 19, 20, 21, 22, 23, 24, 25, 26, 27, 28, 29, 30, 31, 127] ((n.val : Nat) : Int) := by
  decide +kernel
theorem agreeCntrl (c : Int) (h0 : 0 ≤ c) (h1 : c ≤ 255) : isCntrl c = hasB memCntrl.data.toList c := by
  have h := agreeCntrl_fin ⟨c.toNat, by omega⟩
  have e : ((c.toNat : Nat) : Int) = c := by omega
  simp only [e] at h
  exact h
set_option maxRecDepth 100000 in
set_option maxHeartbeats 1000000 in
theorem members_cntrl (w : World) :
    Calls Try.prog 12 #[.string ⟨#[99, 110, 116, 114, 108]⟩] w fun e w' => e = .returned (.tuple #[.string memCntrl, .bool true]) ∧ w' = w := by
  go_enter Try.func12, Try.ntmps12
  go_wp2
  go_ret2
  exact ⟨rfl, rfl⟩

def memDigit : ByteArray := ⟨#[48, 49, 50, 51, 52, 53, 54, 55, 56, 57]⟩
set_option maxRecDepth 100000 in
theorem sizeDigit : memDigit.size ≤ maxLen := by
  decide +kernel
set_option maxRecDepth 100000 in
theorem agreeDigit_fin : ∀ n : Fin 256, isDigit ((n.val : Nat) : Int) = hasB [48, 49, 50, 51, 52, 53, 54, 55, 56, 57] ((n.val : Nat) : Int) := by
  decide +kernel
theorem agreeDigit (c : Int) (h0 : 0 ≤ c) (h1 : c ≤ 255) : isDigit c = hasB memDigit.data.toList c := by
  have h := agreeDigit_fin ⟨c.toNat, by omega⟩
  have e : ((c.toNat : Nat) : Int) = c := by omega
  simp only [e] at h
  exact h
set_option maxRecDepth 100000 in
set_option maxHeartbeats 1000000 in
theorem members_digit (w : World) :
    Calls Try.prog 12 #[.string ⟨#[100, 105, 103, 105, 116]⟩] w fun e w' => e = .returned (.tuple #[.string memDigit, .bool true]) ∧ w' = w := by
  go_enter Try.func12, Try.ntmps12
  go_wp2
  go_ret2
  exact ⟨rfl, rfl⟩

def memGraph : ByteArray := ⟨#[97, 98, 99, 100, 101, 102, 103, 104, 105, 106, 107, 108, 109, 110, 111, 112, 113, 114, 115, 116, 117, 118, 119, 120, 121, 122, 65, 66, 67, 68, 69, 70, 71, 72, 73, 74, 75, 76, 77, 78, 79, 80, 81, 82, 83, 84, 85, 86, 87, 88, 89, 90, 48, 49, 50, 51, 52, 53, 54, 55, 56, 57, 33, 34, 35, 36, 37, 38, 39, 40, 41, 42, 43, 44, 45, 46, 47, 58, 59, 60, 61, 62, 63, 64, 91, 92, 93, 94, 95, 96, 123, 124, 125, 126]⟩
set_option maxRecDepth 100000 in
theorem sizeGraph : memGraph.size ≤ maxLen := by
  decide +kernel
set_option maxRecDepth 100000 in
theorem agreeGraph_fin : ∀ n : Fin 256, isGraph ((n.val : Nat) : Int) = hasB [97, 98, 99, 100, 101, 102, 103, 104, 105, 106, 107, 108, 109, 110, 111, 112, 113, 114, 115, 116, 117, 118, 119, 120, 121, 122, 65, 66, 67, 68, 69, 70, 71, 72, 73, 74, 75, 76, 77, 78, 79, 80, 81, 82, 83, 84, 85, 86, 87, 88, 89, 90, 48, 49, 50, 51, 52, 53, 54, 55, 56, 57, 33, 34, 35, 36, 37, 38, 39, 40, 41, 42, 43, 44, 45, 46, 47, 58, 59, 60, 61, 62, 63, 64, 91, 92, 93, 94, 95, 96, 123, 124, 125, 126] ((n.val : Nat) : Int) := by
  decide +kernel
theorem agreeGraph (c : Int) (h0 : 0 ≤ c) (h1 : c ≤ 255) : isGraph c = hasB memGraph.data.toList c := by
  have h := agreeGraph_fin ⟨c.toNat, by omega⟩
  have e : ((c.toNat : Nat) : Int) = c := by omega
  simp only [e] at h
  exact h
set_option maxRecDepth 100000 in
set_option maxHeartbeats 1000000 in
theorem members_graph (w : World) :
    Calls Try.prog 12 #[.string ⟨#[103, 114, 97, 112, 104]⟩] w fun e w' => e = .returned (.tuple #[.string memGraph, .bool true]) ∧ w' = w := by
  go_enter Try.func12, Try.ntmps12
  go_wp2
  go_ret2
  exact ⟨rfl, rfl⟩

def memLower : ByteArray := ⟨#[97, 98, 99, 100, 101, 102, 103, 104, 105, 106, 107, 108, 109, 110, 111, 112, 113, 114, 115, 116, 117, 118, 119, 120, 121, 122]⟩
set_option maxRecDepth 100000 in
theorem sizeLower : memLower.size ≤ maxLen := by
  decide +kernel
set_option maxRecDepth 100000 in
theorem agreeLower_fin : ∀ n : Fin 256, isLower ((n.val : Nat) : Int) = hasB [97, 98, 99, 100, 101, 102, 103, 104, 105, 106, 107, 108, 109, 110, 111, 112, 113, 114, 115, 116, 117, 118, 119, 120, 121, 122] ((n.val : Nat) : Int) := by
  decide +kernel
theorem agreeLower (c : Int) (h0 : 0 ≤ c) (h1 : c ≤ 255) : isLower c = hasB memLower.data.toList c := by
  have h := agreeLower_fin ⟨c.toNat, by omega⟩
  have e : ((c.toNat : Nat) : Int) = c := by omega
  simp only [e] at h
  exact h
set_option maxRecDepth 100000 in
set_option maxHeartbeats 1000000 in
theorem members_lower (w : World) :
    Calls Try.prog 12 #[.string ⟨#[108, 111, 119, 101, 114]⟩] w fun e w' => e = .returned (.tuple #[.string memLower, .bool true]) ∧ w' = w := by
  go_enter Try.func12, Try.ntmps12
  go_wp2
  go_ret2
  exact ⟨rfl, rfl⟩

def memPrint : ByteArray := ⟨#[32, 97, 98, 99, 100, 101, 102, 103, 104, 105, 106, 107, 108, 109, 110, 111, 112, 113, 114, 115, 116, 117, 118, 119, 120, 121, 122, 65, 66, 67, 68, 69, 70, 71, 72, 73, 74, 75, 76, 77, 78, 79, 80, 81, 82, 83, 84, 85, 86, 87, 88, 89, 90, 48, 49, 50, 51, 52, 53, 54, 55, 56, 57, 33, 34, 35, 36, 37, 38, 39, 40, 41, 42, 43, 44, 45, 46, 47, 58, 59, 60, 61, 62, 63, 64, 91, 92, 93, 94, 95, 96, 123, 124, 125, 126]⟩
set_option maxRecDepth 100000 in
theorem sizePrint : memPrint.size ≤ maxLen := by
  decide +kernel
set_option maxRecDepth 100000 in
theorem agreePrint_fin : ∀ n : Fin 256, isPrint ((n.val : Nat) : Int) = hasB [32, 97, 98, 99, 100, 101, 102, 103, 104, 105, 106, 107, 108, 109, 110, 111, 112, 113, 114, 115, 116, 117, 118, 119, 120, 121, 122, 65, 66, 67, 68, 69, 70, 71, 72, 73, 74, 75, 76, 77, 78, 79, 80, 81, 82, 83, 84, 85, 86, 87, 88, 89, 90, 48, 49, 50, 51, 52, 53, 54, 55, 56, 57, 33, 34, 35, 36, 37, 38, 39, 40, 41, 42, 43, 44, 45, 46, 47, 58, 59, 60, 61, 62, 63, 64, 91, 92, 93, 94, 95, 96, 123, 124, 125, 126] ((n.val : Nat) : Int) := by
  decide +kernel
theorem agreePrint (c : Int) (h0 : 0 ≤ c) (h1 : c ≤ 255) : isPrint c = hasB memPrint.data.toList c := by
  have h := agreePrint_fin ⟨c.toNat, by omega⟩
  have e : ((c.toNat : Nat) : Int) = c := by omega
  simp only [e] at h
  exact h
set_option maxRecDepth 100000 in
set_option maxHeartbeats 1000000 in
theorem members_print (w : World) :
    Calls Try.prog 12 #[.string ⟨#[112, 114, 105, 110, 116]⟩] w fun e w' => e = .returned (.tuple #[.string memPrint, .bool true]) ∧ w' = w := by
  go_enter Try.func12, Try.ntmps12
  go_wp2
  go_ret2
  exact ⟨rfl, rfl⟩

def memPunct : ByteArray := ⟨#[33, 34, 35, 36, 37, 38, 39, 40, 41, 42, 43, 44, 45, 46, 47, 58, 59, 60, 61, 62, 63, 64, 91, 92, 93, 94, 95, 96, 123, 124, 125, 126]⟩
set_option maxRecDepth 100000 in
theorem sizePunct : memPunct.size ≤ maxLen := by
  decide +kernel
set_option maxRecDepth 100000 in
theorem agreePunct_fin : ∀ n : Fin 256, isPunct ((n.val : Nat) : Int) = hasB [33, 34, 35, 36, 37, 38, 39, 40, 41, 42, 43, 44, 45, 46, 47, 58, 59, 60, 61, 62, 63, 64, 91, 92, 93, 94, 95, 96, 123, 124, 125, 126] ((n.val : Nat) : Int) := by
  decide +kernel
theorem agreePunct (c : Int) (h0 : 0 ≤ c) (h1 : c ≤ 255) : isPunct c = hasB memPunct.data.toList c := by
  have h := agreePunct_fin ⟨c.toNat, by omega⟩
  have e : ((c.toNat : Nat) : Int) = c := by omega
  simp only [e] at h
  exact h
set_option maxRecDepth 100000 in
set_option maxHeartbeats 1000000 in
theorem members_punct (w : World) :
    Calls Try.prog 12 #[.string ⟨#[112, 117, 110, 99, 116]⟩] w fun e w' => e = .returned (.tuple #[.string memPunct, .bool true]) ∧ w' = w := by
  go_enter Try.func12, Try.ntmps12
  go_wp2
  go_ret2
  exact ⟨rfl, rfl⟩

def memSpace : ByteArray := ⟨#[32, 9, 10, 13]⟩
set_option maxRecDepth 100000 in
theorem sizeSpace : memSpace.size ≤ maxLen := by
  decide +kernel
set_option maxRecDepth 100000 in
theorem agreeSpace_fin : ∀ n : Fin 256, isSpace ((n.val : Nat) : Int) = hasB [32, 9, 10, 13] ((n.val : Nat) : Int) := by
  decide +kernel
theorem agreeSpace (c : Int) (h0 : 0 ≤ c) (h1 : c ≤ 255) : isSpace c = hasB memSpace.data.toList c := by
  have h := agreeSpace_fin ⟨c.toNat, by omega⟩
  have e : ((c.toNat : Nat) : Int) = c := by omega
  simp only [e] at h
  exact h
set_option maxRecDepth 100000 in
set_option maxHeartbeats 1000000 in
theorem members_space (w : World) :
    Calls Try.prog 12 #[.string ⟨#[115, 112, 97, 99, 101]⟩] w fun e w' => e = .returned (.tuple #[.string memSpace, .bool true]) ∧ w' = w := by
  go_enter Try.func12, Try.ntmps12
  go_wp2
  go_ret2
  exact ⟨rfl, rfl⟩

def memUpper : ByteArray := ⟨#[65, 66, 67, 68, 69, 70, 71, 72, 73, 74, 75, 76, 77, 78, 79, 80, 81, 82, 83, 84, 85, 86, 87, 88, 89, 90]⟩
set_option maxRecDepth 100000 in
theorem sizeUpper : memUpper.size ≤ maxLen := by
  decide +kernel
set_option maxRecDepth 100000 in
theorem agreeUpper_fin : ∀ n : Fin 256, isUpper ((n.val : Nat) : Int) = hasB [65, 66, 67, 68, 69, 70, 71, 72, 73, 74, 75, 76, 77, 78, 79, 80, 81, 82, 83, 84, 85, 86, 87, 88, 89, 90] ((n.val : Nat) : Int) := by
  decide +kernel
theorem agreeUpper (c : Int) (h0 : 0 ≤ c) (h1 : c ≤ 255) : isUpper c = hasB memUpper.data.toList c := by
  have h := agreeUpper_fin ⟨c.toNat, by omega⟩
  have e : ((c.toNat : Nat) : Int) = c := by omega
  simp only [e] at h
  exact h
set_option maxRecDepth 100000 in
set_option maxHeartbeats 1000000 in
theorem members_upper (w : World) :
    Calls Try.prog 12 #[.string ⟨#[117, 112, 112, 101, 114]⟩] w fun e w' => e = .returned (.tuple #[.string memUpper, .bool true]) ∧ w' = w := by
  go_enter Try.func12, Try.ntmps12
  go_wp2
  go_ret2
  exact ⟨rfl, rfl⟩

def memXdigit : ByteArray := ⟨#[48, 49, 50, 51, 52, 53, 54, 55, 56, 57, 97, 98, 99, 100, 101, 102, 65, 66, 67, 68, 69, 70]⟩
set_option maxRecDepth 100000 in
theorem sizeXdigit : memXdigit.size ≤ maxLen := by
  decide +kernel
set_option maxRecDepth 100000 in
theorem agreeXdigit_fin : ∀ n : Fin 256, isXdigit ((n.val : Nat) : Int) = hasB [48, 49, 50, 51, 52, 53, 54, 55, 56, 57, 97, 98, 99, 100, 101, 102, 65, 66, 67, 68, 69, 70] ((n.val : Nat) : Int) := by
  decide +kernel
theorem agreeXdigit (c : Int) (h0 : 0 ≤ c) (h1 : c ≤ 255) : isXdigit c = hasB memXdigit.data.toList c := by
  have h := agreeXdigit_fin ⟨c.toNat, by omega⟩
  have e : ((c.toNat : Nat) : Int) = c := by omega
  simp only [e] at h
  exact h
set_option maxRecDepth 100000 in
set_option maxHeartbeats 1000000 in
theorem members_xdigit (w : World) :
    Calls Try.prog 12 #[.string ⟨#[120, 100, 105, 103, 105, 116]⟩] w fun e w' => e = .returned (.tuple #[.string memXdigit, .bool true]) ∧ w' = w := by
  go_enter Try.func12, Try.ntmps12
  go_wp2
  go_ret2
  exact ⟨rfl, rfl⟩

set_option maxRecDepth 100000 in
set_option maxHeartbeats 1000000 in
theorem members_other (a : ByteArray) (w : World) (h_alnum : (a.toList == [97, 108, 110, 117, 109]) = false) (h_alpha : (a.toList == [97, 108, 112, 104, 97]) = false) (h_blank : (a.toList == [98, 108, 97, 110, 107]) = false) (h_cntrl : (a.toList == [99, 110, 116, 114, 108]) = false) (h_digit : (a.toList == [100, 105, 103, 105, 116]) = false) (h_graph : (a.toList == [103, 114, 97, 112, 104]) = false) (h_lower : (a.toList == [108, 111, 119, 101, 114]) = false) (h_print : (a.toList == [112, 114, 105, 110, 116]) = false) (h_punct : (a.toList == [112, 117, 110, 99, 116]) = false) (h_space : (a.toList == [115, 112, 97, 99, 101]) = false) (h_upper : (a.toList == [117, 112, 112, 101, 114]) = false) (h_xdigit : (a.toList == [120, 100, 105, 103, 105, 116]) = false) :
    Calls Try.prog 12 #[.string a] w fun e w' => e = .returned (.tuple #[.string ByteArray.empty, .bool false]) ∧ w' = w := by
  go_enter Try.func12, Try.ntmps12
  go_wp2
  go_ret2
  exact ⟨rfl, rfl⟩

set_option maxRecDepth 100000 in
set_option maxHeartbeats 1000000 in
theorem in_other (a : ByteArray) (c : Int) (w : World) (h_alnum : (a.toList == [97, 108, 110, 117, 109]) = false) (h_alpha : (a.toList == [97, 108, 112, 104, 97]) = false) (h_blank : (a.toList == [98, 108, 97, 110, 107]) = false) (h_cntrl : (a.toList == [99, 110, 116, 114, 108]) = false) (h_digit : (a.toList == [100, 105, 103, 105, 116]) = false) (h_graph : (a.toList == [103, 114, 97, 112, 104]) = false) (h_lower : (a.toList == [108, 111, 119, 101, 114]) = false) (h_print : (a.toList == [112, 114, 105, 110, 116]) = false) (h_punct : (a.toList == [112, 117, 110, 99, 116]) = false) (h_space : (a.toList == [115, 112, 97, 99, 101]) = false) (h_upper : (a.toList == [117, 112, 112, 101, 114]) = false) (h_xdigit : (a.toList == [120, 100, 105, 103, 105, 116]) = false) :
    Calls Try.prog 15 #[.string a, .int .u8 c] w fun e w' => e = .returned (.tuple #[.bool false, .bool false]) ∧ w' = w := by
  go_enter Try.func15, Try.ntmps15
  go_wp2
  all_goals
    go_ret2
    exact ⟨rfl, rfl⟩

theorem zz_other (a : ByteArray) (c : Int) (w : World) (h_alnum : (a.toList == [97, 108, 110, 117, 109]) = false) (h_alpha : (a.toList == [97, 108, 112, 104, 97]) = false) (h_blank : (a.toList == [98, 108, 97, 110, 107]) = false) (h_cntrl : (a.toList == [99, 110, 116, 114, 108]) = false) (h_digit : (a.toList == [100, 105, 103, 105, 116]) = false) (h_graph : (a.toList == [103, 114, 97, 112, 104]) = false) (h_lower : (a.toList == [108, 111, 119, 101, 114]) = false) (h_print : (a.toList == [112, 114, 105, 110, 116]) = false) (h_punct : (a.toList == [112, 117, 110, 99, 116]) = false) (h_space : (a.toList == [115, 112, 97, 99, 101]) = false) (h_upper : (a.toList == [117, 112, 112, 101, 114]) = false) (h_xdigit : (a.toList == [120, 100, 105, 103, 105, 116]) = false) :
    Calls Try.prog 11 #[.string a, .int .u8 c] w fun e w' => e = .returned (.tuple #[.bool false, .bool false]) ∧ w' = w := by
  go_enter Try.func11, Try.ntmps11
  go_wp2_with fail
  refine (in_other a c _ h_alnum h_alpha h_blank h_cntrl h_digit h_graph h_lower h_print h_punct h_space h_upper h_xdigit).mono ?_
  rintro e w' ⟨rfl, rfl⟩
  go_wp2
  go_ret2
  exact ⟨rfl, rfl⟩

end Go.Proofs.Qxb6603394a.inClass
