/-
  The plain mathematics of the two laws: no Go in sight. 'ld': how many leading digits. 'jn': isJSONNumber over a list of bytes.
  'step', 'acc': the automaton. 'jn_acc': the two agree.
-/
namespace Go.Proofs.Qxb6603395a.plain

def isD (c : Int) : Prop := 48 ≤ c ∧ c ≤ 57

def dgB (c : Int) : Bool := decide (48 ≤ c) && decide (c ≤ 57)

def ofB (b : UInt8) : Int := ((b.toNat : Nat) : Int)

def ld : List UInt8 → Nat
  | [] => 0
  | b :: t => if dgB (ofB b) then ld t + 1 else 0

theorem ld_le (l : List UInt8) : ld l ≤ l.length := by
  induction l with
  | nil => simp [ld]
  | cons b t ih => unfold ld; split <;> simp <;> omega

theorem ld_cons_yes {b : UInt8} {t : List UInt8} (h : dgB (ofB b) = true) : ld (b :: t) = ld t + 1 := by simp [ld, h]
theorem ld_cons_no {b : UInt8} {t : List UInt8} (h : dgB (ofB b) = false) : ld (b :: t) = 0 := by simp [ld, h]

theorem ld_digit (l : List UInt8) : ∀ (j : Nat) (h : j < l.length), j < ld l → dgB (ofB l[j]) = true := by
  induction l with
  | nil => intro j h; simp at h
  | cons b t ih =>
    intro j h hj
    by_cases hb : dgB (ofB b) = true
    · cases j with
      | zero => simpa using hb
      | succ j =>
        rw [ld_cons_yes hb] at hj
        simp only [List.getElem_cons_succ]
        exact ih j (by simpa using h) (by omega)
    · rw [ld_cons_no (by simpa using hb)] at hj; omega

theorem ld_stop (l : List UInt8) : ∀ (h : ld l < l.length), dgB (ofB l[ld l]) = false := by
  induction l with
  | nil => intro h; simp at h
  | cons b t ih =>
    intro h
    by_cases hb : dgB (ofB b) = true
    · have e := ld_cons_yes (t := t) hb
      simp only [e, List.getElem_cons_succ]
      exact ih (by rw [e] at h; simpa using h)
    · have hb' : dgB (ofB b) = false := by simpa using hb
      have e := ld_cons_no (t := t) hb'
      simp only [e, List.getElem_cons_zero]
      exact hb'

/-! ### isJSONNumber, stage by stage -/
def jnE (l : List UInt8) : Bool := if ld l = 0 then false else (l.drop (ld l)).isEmpty
def stripS : List UInt8 → List UInt8
  | [] => []
  | b :: t => if ofB b = 43 ∨ ofB b = 45 then t else b :: t
def jnX : List UInt8 → Bool
  | [] => true
  | b :: t => if ofB b = 101 ∨ ofB b = 69 then jnE (stripS t) else false
def jnF : List UInt8 → Bool
  | [] => true
  | b :: t => if ofB b = 46 then (if ld t = 0 then false else jnX (t.drop (ld t))) else jnX (b :: t)
def headIs0 : List UInt8 → Bool
  | [] => false
  | b :: _ => decide (ofB b = 48)
def jnW (l : List UInt8) : Bool := if ld l = 0 ∨ (1 < ld l ∧ headIs0 l = true) then false else jnF (l.drop (ld l))
def stripM : List UInt8 → List UInt8
  | [] => []
  | b :: t => if ofB b = 45 then t else b :: t
def jn (l : List UInt8) : Bool := jnW (stripM l)

/-! ### The automaton -/
def step (st c : Int) : Int :=
  if st = 0 then (if c = 45 then 1 else if c = 48 then 2 else if dgB c then 3 else -1)
  else if st = 1 then (if c = 48 then 2 else if dgB c then 3 else -1)
  else if st = 2 then (if c = 46 then 4 else if c = 101 ∨ c = 69 then 6 else -1)
  else if st = 3 then (if dgB c then 3 else if c = 46 then 4 else if c = 101 ∨ c = 69 then 6 else -1)
  else if st = 4 then (if dgB c then 5 else -1)
  else if st = 5 then (if dgB c then 5 else if c = 101 ∨ c = 69 then 6 else -1)
  else if st = 6 then (if c = 43 ∨ c = 45 then 7 else if dgB c then 8 else -1)
  else if st = 7 then (if dgB c then 8 else -1)
  else if st = 8 then (if dgB c then 8 else -1)
  else -1

def accN (st : Int) : Bool := decide (st = 2) || decide (st = 3) || decide (st = 5) || decide (st = 8)
def acc (st : Int) : List UInt8 → Bool
  | [] => accN st
  | b :: t => if step st (ofB b) < 0 then false else acc (step st (ofB b)) t

theorem dg_iff (c : Int) : dgB c = true ↔ (48 ≤ c ∧ c ≤ 57) := by unfold dgB; simp
theorem step_bd (st c : Int) : step st c = -1 ∨ (0 ≤ step st c ∧ step st c ≤ 8) := by
  unfold step
  repeat' split
  all_goals first | exact Or.inl rfl | exact Or.inr (by omega)

theorem acc8 (l : List UInt8) : acc 8 l = (l.drop (ld l)).isEmpty := by
  induction l with
  | nil => rfl
  | cons b t ih =>
    by_cases h : dgB (ofB b) = true
    · rw [ld_cons_yes h]; simp [acc, step, h, ih]
    · have h' : dgB (ofB b) = false := by simpa using h
      rw [ld_cons_no h']; simp [acc, step, h']

theorem acc7 (l : List UInt8) : acc 7 l = jnE l := by
  cases l with
  | nil => simp [acc, accN, jnE, ld]
  | cons b t =>
    unfold jnE
    by_cases h : dgB (ofB b) = true
    · rw [ld_cons_yes h]; simp [acc, step, h, acc8]
    · have h' : dgB (ofB b) = false := by simpa using h
      rw [ld_cons_no h']; simp [acc, step, h']

theorem acc6 (l : List UInt8) : acc 6 l = jnE (stripS l) := by
  cases l with
  | nil => simp [acc, accN, jnE, ld, stripS]
  | cons b t =>
    by_cases hs : ofB b = 43 ∨ ofB b = 45
    · simp [acc, step, stripS, hs, acc7]
    · have e : acc 6 (b :: t) = acc 7 (b :: t) := by simp [acc, step, hs]
      rw [e, acc7]; simp [stripS, hs]

theorem acc5 (l : List UInt8) : acc 5 l = jnX (l.drop (ld l)) := by
  induction l with
  | nil => rfl
  | cons b t ih =>
    by_cases h : dgB (ofB b) = true
    · rw [ld_cons_yes h]; simp [acc, step, h, ih]
    · have h' : dgB (ofB b) = false := by simpa using h
      rw [ld_cons_no h']
      by_cases he : ofB b = 101 ∨ ofB b = 69
      · simp [acc, step, h', he, jnX, acc6]
      · simp [acc, step, h', he, jnX]

theorem acc4 (l : List UInt8) : acc 4 l = (if ld l = 0 then false else jnX (l.drop (ld l))) := by
  cases l with
  | nil => simp [acc, accN, ld]
  | cons b t =>
    by_cases h : dgB (ofB b) = true
    · rw [ld_cons_yes h]; simp [acc, step, h, acc5]
    · have h' : dgB (ofB b) = false := by simpa using h
      rw [ld_cons_no h']; simp [acc, step, h']

theorem acc3 (l : List UInt8) : acc 3 l = jnF (l.drop (ld l)) := by
  induction l with
  | nil => rfl
  | cons b t ih =>
    by_cases h : dgB (ofB b) = true
    · rw [ld_cons_yes h]; simp [acc, step, h, ih]
    · have h' : dgB (ofB b) = false := by simpa using h
      rw [ld_cons_no h']
      by_cases hp : ofB b = 46
      · have hq : dgB 46 = false := by decide
        simp [acc, step, hp, hq, jnF, acc4]
      · by_cases he : ofB b = 101 ∨ ofB b = 69
        · simp [acc, step, h', he, hp, jnF, jnX, acc6]
        · simp [acc, step, h', he, hp, jnF, jnX]

theorem acc2 (l : List UInt8) : acc 2 l = jnF l := by
  cases l with
  | nil => rfl
  | cons b t =>
    by_cases hp : ofB b = 46
    · simp [acc, step, hp, jnF, acc4]
    · by_cases he : ofB b = 101 ∨ ofB b = 69
      · simp [acc, step, he, hp, jnF, jnX, acc6]
      · simp [acc, step, he, hp, jnF, jnX]

theorem jnF_digit {b : UInt8} {t : List UInt8} (h : dgB (ofB b) = true) : jnF (b :: t) = false := by
  have h' := (dg_iff _).mp h
  have h1 : ¬ ofB b = 46 := by omega
  have h2 : ¬ (ofB b = 101 ∨ ofB b = 69) := by omega
  simp [jnF, jnX, h1, h2]

theorem acc1 (l : List UInt8) : acc 1 l = jnW l := by
  cases l with
  | nil => simp [acc, accN, jnW, ld]
  | cons b t =>
    unfold jnW
    by_cases hz : ofB b = 48
    · have h : dgB (ofB b) = true := by rw [hz]; decide
      rw [ld_cons_yes h]
      have e : acc 1 (b :: t) = acc 2 t := by simp [acc, step, hz]
      rw [e, acc2]
      have hh : headIs0 (b :: t) = true := by simp [headIs0, hz]
      cases t with
      | nil => simp [ld]
      | cons b2 t2 =>
        by_cases h2 : dgB (ofB b2) = true
        · rw [jnF_digit h2, ld_cons_yes h2, if_pos (Or.inr ⟨by omega, hh⟩)]
        · have h2' : dgB (ofB b2) = false := by simpa using h2
          rw [ld_cons_no h2', if_neg (by simp)]; simp
    · have hh : headIs0 (b :: t) = false := by simp [headIs0, hz]
      by_cases h : dgB (ofB b) = true
      · rw [ld_cons_yes h, if_neg (by simp [hh])]
        simp [acc, step, hz, h, acc3]
      · have h' : dgB (ofB b) = false := by simpa using h
        rw [ld_cons_no h', if_pos (Or.inl rfl)]
        simp [acc, step, hz, h']

theorem jn_acc (l : List UInt8) : jn l = acc 0 l := by
  unfold jn
  cases l with
  | nil => simp [acc, accN, jnW, ld, stripM]
  | cons b t =>
    by_cases hm : ofB b = 45
    · have e : acc 0 (b :: t) = acc 1 t := by simp [acc, step, hm]
      rw [e, acc1]; simp [stripM, hm]
    · have e : acc 0 (b :: t) = acc 1 (b :: t) := by simp [acc, step, hm]
      rw [e, acc1]; simp [stripM, hm]

end Go.Proofs.Qxb6603395a.plain
