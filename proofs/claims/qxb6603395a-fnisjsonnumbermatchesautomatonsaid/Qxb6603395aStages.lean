/-
  isJSONNumber's stages by their tests: no Go in sight.
-/
import Derived.Test.Qxb6603395aPlain
namespace Go.Proofs.Qxb6603395a.plain

/-! ### The stages by their tests -/
def hd (l : List UInt8) (c : Int) : Bool := match l with
  | [] => false
  | b :: _ => ofB b == c

theorem hd_cons (b : UInt8) (t : List UInt8) (c : Int) : hd (b :: t) c = true ↔ ofB b = c := by simp [hd]
theorem hd_cons_no (b : UInt8) (t : List UInt8) (c : Int) : hd (b :: t) c = false ↔ ¬ ofB b = c := by simp [hd]

theorem jn_yes {l : List UInt8} (h : hd l 45 = true) : jn l = jnW (l.drop 1) := by
  cases l with
  | nil => simp [hd] at h
  | cons b t => rw [hd_cons] at h; simp [jn, stripM, h]
theorem jn_no {l : List UInt8} (h : hd l 45 = false) : jn l = jnW l := by
  cases l with
  | nil => rfl
  | cons b t => rw [hd_cons_no] at h; simp [jn, stripM, h]
theorem head0 (l : List UInt8) : headIs0 l = hd l 48 := by
  cases l with
  | nil => rfl
  | cons b t => simp [hd, headIs0]; rfl
theorem jnW_no {l : List UInt8} (h : (decide (ld l = 0) || (decide (1 < ld l) && hd l 48)) = true) : jnW l = false := by
  unfold jnW
  rw [head0, if_pos (by simpa using h)]
theorem jnW_yes {l : List UInt8} (h : (decide (ld l = 0) || (decide (1 < ld l) && hd l 48)) = false) : jnW l = jnF (l.drop (ld l)) := by
  unfold jnW
  rw [head0, if_neg (by intro hh; have : (decide (ld l = 0) || (decide (1 < ld l) && hd l 48)) = true := by simpa using hh
                        rw [this] at h; cases h)]
theorem jnF_no {l : List UInt8} (h : hd l 46 = false) : jnF l = jnX l := by
  cases l with
  | nil => rfl
  | cons b t => rw [hd_cons_no] at h; simp [jnF, h]
theorem jnF_zero {l : List UInt8} (h : hd l 46 = true) (hz : ld (l.drop 1) = 0) : jnF l = false := by
  cases l with
  | nil => simp [hd] at h
  | cons b t => rw [hd_cons] at h; simp only [List.drop_one, List.tail_cons] at hz; simp [jnF, h, hz]
theorem jnF_some {l : List UInt8} (h : hd l 46 = true) (hz : ¬ ld (l.drop 1) = 0) : jnF l = jnX (l.drop (1 + ld (l.drop 1))) := by
  cases l with
  | nil => simp [hd] at h
  | cons b t =>
    rw [hd_cons] at h
    simp only [List.drop_one, List.tail_cons] at hz
    rw [← List.drop_drop]
    simp [jnF, h, hz]
theorem jnX_no {l : List UInt8} (h : (hd l 101 || hd l 69) = false) : jnX l = l.isEmpty := by
  cases l with
  | nil => rfl
  | cons b t =>
    rw [Bool.or_eq_false_iff, hd_cons_no, hd_cons_no] at h
    simp [jnX, h.1, h.2]
theorem jnX_yes {l : List UInt8} (h : (hd l 101 || hd l 69) = true) : jnX l = jnE (stripS (l.drop 1)) := by
  cases l with
  | nil => simp [hd] at h
  | cons b t =>
    rw [Bool.or_eq_true, hd_cons, hd_cons] at h
    simp [jnX, h]
theorem stripS_no {l : List UInt8} (h : (hd l 43 || hd l 45) = false) : stripS l = l := by
  cases l with
  | nil => rfl
  | cons b t =>
    rw [Bool.or_eq_false_iff, hd_cons_no, hd_cons_no] at h
    simp [stripS, h.1, h.2]
theorem stripS_yes {l : List UInt8} (h : (hd l 43 || hd l 45) = true) : stripS l = l.drop 1 := by
  cases l with
  | nil => simp [hd] at h
  | cons b t =>
    rw [Bool.or_eq_true, hd_cons, hd_cons] at h
    simp [stripS, h]
theorem jnE_zero {l : List UInt8} (h : ld l = 0) : jnE l = false := by simp [jnE, h]
theorem jnE_some {l : List UInt8} (h : ¬ ld l = 0) : jnE l = (l.drop (ld l)).isEmpty := by simp [jnE, h]
theorem hd_pos {l : List UInt8} {c : Int} (h : hd l c = true) : 0 < l.length := by
  cases l with
  | nil => simp [hd] at h
  | cons b t => simp

end Go.Proofs.Qxb6603395a.plain
