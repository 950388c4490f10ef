/-
  The plain mathematics of FnProcessEnvMatchesModel: no Go in sight.
  'ns N k': the names after the first k settings (PATH first, each at its first setting). 'lv N V n k': n's last value among the first k settings.
  'ent n v': n, an equals sign, v. 'envL N V k': the environment after the first k settings.
-/
namespace Go.Proofs.Qxb6604301a.plain

def pathN : ByteArray := ⟨#[80, 65, 84, 72]⟩
def defV : ByteArray := ⟨#[47, 117, 115, 114, 47, 108, 111, 99, 97, 108, 47, 115, 98, 105, 110, 58, 47, 117, 115, 114, 47, 108, 111, 99, 97, 108, 47, 98, 105, 110, 58, 47, 117, 115, 114, 47, 115, 98, 105, 110, 58, 47, 117, 115, 114, 47, 98, 105, 110, 58, 47, 115, 98, 105, 110, 58, 47, 98, 105, 110]⟩
def eqS : ByteArray := ⟨#[61]⟩
def ent (n v : ByteArray) : ByteArray := n ++ eqS ++ v

def memB (x : ByteArray) (l : List ByteArray) : Bool := l.any fun y => decide (y = x)
theorem memB_iff {x : ByteArray} {l : List ByteArray} : memB x l = true ↔ x ∈ l := by simp [memB]
theorem memB_no {x : ByteArray} {l : List ByteArray} (h : ¬ x ∈ l) : memB x l = false := by
  cases e : memB x l with
  | false => rfl
  | true => exact absurd (memB_iff.mp e) h

def ns (N : Nat → ByteArray) : Nat → List ByteArray
  | 0 => [pathN]
  | k + 1 => if memB (N k) (ns N k) then ns N k else ns N k ++ [N k]

def lv (N V : Nat → ByteArray) (n : ByteArray) : Nat → ByteArray
  | 0 => defV
  | k + 1 => if N k = n then V k else lv N V n k

def envL (N V : Nat → ByteArray) (k : Nat) : List ByteArray := (ns N k).map fun n => ent n (lv N V n k)

theorem ns_old {N : Nat → ByteArray} {k : Nat} (h : N k ∈ ns N k) : ns N (k + 1) = ns N k := by simp [ns, memB_iff.mpr h]
theorem ns_new {N : Nat → ByteArray} {k : Nat} (h : ¬ N k ∈ ns N k) : ns N (k + 1) = ns N k ++ [N k] := by simp [ns, memB_no h]

theorem ns_nodup (N : Nat → ByteArray) : ∀ k, (ns N k).Nodup
  | 0 => by simp [ns]
  | k + 1 => by
    by_cases h : N k ∈ ns N k
    · rw [ns_old h]; exact ns_nodup N k
    · rw [ns_new h, List.nodup_append]
      exact ⟨ns_nodup N k, by simp, fun a ha b hb => by simp at hb; subst hb; exact fun e => h (e ▸ ha)⟩

theorem ns_len (N : Nat → ByteArray) : ∀ k, 0 < (ns N k).length ∧ (ns N k).length ≤ k + 1
  | 0 => by simp [ns]
  | k + 1 => by
    have ih := ns_len N k
    by_cases h : N k ∈ ns N k
    · rw [ns_old h]; omega
    · rw [ns_new h]; simp; omega

theorem lv_same {N V : Nat → ByteArray} {n : ByteArray} {k : Nat} (h : N k = n) : lv N V n (k + 1) = V k := by simp [lv, h]
theorem lv_other {N V : Nat → ByteArray} {n : ByteArray} {k : Nat} (h : ¬ N k = n) : lv N V n (k + 1) = lv N V n k := by simp [lv, h]

theorem envL_len (N V : Nat → ByteArray) (k : Nat) : (envL N V k).length = (ns N k).length := by simp [envL]

theorem envL_new {N V : Nat → ByteArray} {k : Nat} (h : ¬ N k ∈ ns N k) : envL N V (k + 1) = envL N V k ++ [ent (N k) (V k)] := by
  unfold envL
  rw [ns_new h, List.map_append, List.map_singleton, lv_same rfl]
  congr 1
  apply List.map_congr_left
  intro n hn
  have hne : ¬ N k = n := fun e => h (by rw [e]; exact hn)
  rw [lv_other hne]

theorem nodup_inj {α : Type} {l : List α} (h : l.Nodup) {i j : Nat} (hi : i < l.length) (hj : j < l.length) (e : l[i] = l[j]) : i = j := by
  rw [List.Nodup, List.pairwise_iff_getElem] at h
  rcases Nat.lt_trichotomy i j with hlt | he | hgt
  · exact absurd e (h i j hi hj hlt)
  · exact he
  · exact absurd e.symm (h j i hj hi hgt)

theorem envL_old {N V : Nat → ByteArray} {k i : Nat} (hi : i < (ns N k).length) (h : (ns N k)[i] = N k) : envL N V (k + 1) = (envL N V k).set i (ent (N k) (V k)) := by
  have hm : N k ∈ ns N k := by rw [← h]; exact List.getElem_mem hi
  unfold envL
  rw [ns_old hm]
  apply List.ext_getElem
  · simp
  · intro j h1 h2
    simp only [List.length_map] at h1
    by_cases e : i = j
    · subst e
      simp [h, lv_same (N := N) (V := V) (n := N k) (k := k) rfl]
    · have hne : ¬ N k = (ns N k)[j] := fun e2 => e (nodup_inj (ns_nodup N k) hi h1 (h.trans e2))
      rw [List.getElem_set_ne e, List.getElem_map, List.getElem_map, lv_other hne]

theorem ent_path : ent pathN defV = ⟨#[80, 65, 84, 72, 61, 47, 117, 115, 114, 47, 108, 111, 99, 97, 108, 47, 115, 98, 105, 110, 58, 47, 117, 115, 114, 47, 108, 111, 99, 97, 108, 47, 98, 105, 110, 58, 47, 117, 115, 114, 47, 115, 98, 105, 110, 58, 47, 117, 115, 114, 47, 98, 105, 110, 58, 47, 115, 98, 105, 110, 58, 47, 98, 105, 110]⟩ := by
  decide +kernel

theorem envL_zero (N V : Nat → ByteArray) : envL N V 0 = [ent pathN defV] := by simp [envL, ns, lv]

end Go.Proofs.Qxb6604301a.plain
