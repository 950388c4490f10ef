/-
  The map 'at' of processEnv, as a datum: which keys it holds, and at which place. And a law for the insert of a map's literal.
-/
import Derived.Test.Qxb6604301aPlain
import Derived.Maps.OwnSet
import Derived.Maps.AppendAt
namespace Go.Proofs.Qxb6604301a.plain
open Go Go.Maps

def keyL (n : ByteArray) : Lit := .string n.data.toList

theorem keyOk (n : ByteArray) : WideAt.IsKeyLit (keyL n) := trivial

def atD (N : Nat → ByteArray) : Nat → DataW Unit
  | 0 => (DataW.map []).put (keyL pathN) (.lit (.int .i64 0))
  | k + 1 => if memB (N k) (ns N k) then atD N k else (atD N k).put (keyL (N k)) (.lit (.int .i64 ((ns N k).length : Nat)))

theorem keyL_inj {a b : ByteArray} (h : keyL a = keyL b) : a = b := by
  unfold keyL at h
  simp only [Lit.string.injEq] at h
  cases a with
  | mk x => cases b with
    | mk y => congr; exact Array.toList_inj.mp h

theorem isMap_at (N : Nat → ByteArray) : ∀ k, IsMap (atD N k)
  | 0 => isMap_empty.put _ _
  | k + 1 => by
    unfold atD
    split
    · exact isMap_at N k
    · exact (isMap_at N k).put _ _

theorem at_old {N : Nat → ByteArray} {k : Nat} (h : N k ∈ ns N k) : atD N (k + 1) = atD N k := by simp [atD, memB_iff.mpr h]
theorem at_new {N : Nat → ByteArray} {k : Nat} (h : ¬ N k ∈ ns N k) : atD N (k + 1) = (atD N k).put (keyL (N k)) (.lit (.int .i64 ((ns N k).length : Nat))) := by simp [atD, memB_no h]

theorem has_at (N : Nat → ByteArray) (n : ByteArray) : ∀ k, Maps.has (atD N k) (keyL n) = memB n (ns N k)
  | 0 => by
    by_cases e : n = pathN
    · subst e
      rw [show memB pathN (ns N 0) = true from memB_iff.mpr (by simp [ns])]
      exact has_put_same isMap_empty (keyOk _) _
    · rw [memB_no (by simp [ns, e])]
      unfold atD
      rw [has_put_other (fun h => e (keyL_inj h))]
      rfl
  | k + 1 => by
    have ih := has_at N n k
    by_cases h : N k ∈ ns N k
    · rw [at_old h, ns_old h, ih]
    · rw [at_new h, ns_new h]
      by_cases e : n = N k
      · subst e
        rw [has_put_same (isMap_at N k) (keyOk _)]
        exact (memB_iff.mpr (by simp)).symm
      · rw [has_put_other (fun h => e (keyL_inj h)), ih]
        by_cases hm : n ∈ ns N k
        · rw [memB_iff.mpr hm, memB_iff.mpr (by simp [hm])]
        · rw [memB_no hm, memB_no (by simp [hm, e])]

theorem atKey_at (N : Nat → ByteArray) (n : ByteArray) (z : DataW Unit) : ∀ (k i : Nat) (hi : i < (ns N k).length), (ns N k)[i] = n → (atD N k).atKey (keyL n) z = .lit (.int .i64 (i : Nat))
  | 0, i, hi, h => by
    have h0 : i = 0 := by simp [ns] at hi; exact hi
    subst h0
    have hn : pathN = n := by simpa [ns] using h
    rw [← hn]
    exact atKey_put_same isMap_empty (keyOk _) _ _
  | k + 1, i, hi, h => by
    by_cases hm : N k ∈ ns N k
    · have e := ns_old hm
      rw [at_old hm]
      exact atKey_at N n z k i (by rw [← e]; exact hi) (by simpa [e] using h)
    · have e := ns_new hm
      rw [at_new hm]
      by_cases hlt : i < (ns N k).length
      · have h' : (ns N k)[i] = n := by simpa [e, List.getElem_append_left hlt] using h
        have hne : ¬ n = N k := fun e2 => hm (by rw [← e2, ← h']; exact List.getElem_mem hlt)
        rw [atKey_put_other (fun h => hne (keyL_inj h))]
        exact atKey_at N n z k i hlt h'
      · have hi2 : i = (ns N k).length := by rw [e] at hi; simp at hi; omega
        subst hi2
        have h' : N k = n := by simpa [e] using h
        rw [← h']
        exact atKey_put_same (isMap_at N k) (keyOk _) _ _


/-- 'map[K]V{k: v}' AT THE OPERATION: the law of a map's store, for the insert of a literal. -/
theorem wpList_insert_lit {H : Type} {P : Program} (w : World) {ops : Array Oper} {rest : List Oper} {o : Oper} {a : Act} {Q : Exit → Act → World → Prop}
    (hg : o.guard = none) (m x v : Operand) (t : TypeId) (hop : o.op = Op.insert t m x v)
    (k e : TypeId) (K : Keyed P k) (ht : P.underlying t = some (.map k e)) (R : Value → Option (DataW H × List MemPlace)) (b n : Nat) (D : DataW H)
    (hm : a.eval m = .map (some b)) (hown : w.ownsMap P k R b n D) (hn : n < maxLen) (key val : Value) (kl : Lit) (hx : a.eval x = key) (hv : a.eval v = val) (hkey : keyOf P k key = some kl)
    (d : DataW H) (ps : List MemPlace) (hval : R val = some (d, ps))
    (hK : ∀ w', w'.ownsMap P k R b (n + 1) (D.put kl d) → w.grownBy w' (some b) → wpList P ops Q rest (a.put o.dst undef) w') :
    wpList P ops Q (o :: rest) a w := by
  refine wpList_plain hg fun K' hK' => ?_
  obtain ⟨w', hrun, r1, r2⟩ := hown.update K ht hn hkey hval
  unfold Oper.wp
  simp [execOp, hop, hm, hx, hv, hrun, Result.andThen]
  exact hK' _ _ (hK w' r1 r2)

end Go.Proofs.Qxb6604301a.plain
