/-
  The contracts of the functions that only read: 'zzBytes_FnProcessEnvMatchesModel' (11), 'envBytes' (12), 'sameStrings' (14).
-/
import Derived.Test.Qxb6604301aRows
import Derived.WalkKit
import Derived.ProofKit
import Derived.OpenShut
import Derived.BigQuiet
import Derived.Deep.QuietTactic
import Derived.Deep.Light
namespace Go.Proofs.Qxb6604301a.walks
open Go.ChangeShapes Go.WideShapes Go.ChangeAt Go.RowKit
set_option linter.unusedVariables false

/-- It ends in a bool. -/
def IsB (e : Ending) : Prop := ∃ x, e = .returned (.bool x)

theorem bytes_none (a : Option Addr) (cap : Nat) (w : World) :
    Calls Try.prog 11 #[.slice a 0 cap] w fun e w' => IsB e ∧ w = w' := by
  go_enter Try.func11, Try.ntmps11
  go_wp2
  refine wp_loop_rounds 1 ?_
  rw [rounds_succ]
  go_wp2
  go_ret
  exact ⟨⟨_, rfl⟩, rfl⟩

set_option maxHeartbeats 400000 in
theorem bytes_any (b off len cap : Nat) (N V : Nat → ByteArray) (w : World) (hl : len ≤ 9223372036854775807)
    (hN : ∀ j, j < len → w.cell? ⟨b, off + j * 2, none⟩ = some (.string (N j))) (hV : ∀ j, j < len → w.cell? ⟨b, off + j * 2 + 1, none⟩ = some (.string (V j))) :
    Calls Try.prog 11 #[.slice (some ⟨b, off, none⟩) len cap] w fun e w' => IsB e ∧ w = w' := by
  by_cases hbig : 1048576 < len
  · go_enter Try.func11, Try.ntmps11
    go_wp2
    go_ret
    exact ⟨⟨_, rfl⟩, rfl⟩
  go_enter Try.func11, Try.ntmps11
  go_wp2
  go_loop [3, 4] (fun z i => ∃ (k : Nat) (q : Int), k ≤ len ∧ 0 ≤ q ∧ q ≤ 1048576 ∧ z = .int .i64 q ∧ i = .int .i64 k) (fun _ i => len - (intOf i).toNat)
  case atStart => exact ⟨0, _, Nat.zero_le _, by omega, by omega, rfl, rfl⟩
  case round =>
    obtain ⟨k, q, hk, hq0, hq1, rfl, rfl⟩ := hrel
    by_cases hlt : k < len
    · have h1 := hN k hlt
      have h2 := hV k hlt
      clear hN hV
      generalize N k = n1 at *
      generalize V k = v1 at *
      by_cases hn : 1048576 < (n1.size : Int)
      · go_wp2
        go_ret
        exact ⟨⟨_, rfl⟩, rfl⟩
      · by_cases hq2 : 1048576 < q + (n1.size : Int)
        · go_wp2
          go_ret
          exact ⟨⟨_, rfl⟩, rfl⟩
        · by_cases hv : 1048576 < (v1.size : Int)
          · go_wp2
            go_ret
            exact ⟨⟨_, rfl⟩, rfl⟩
          · by_cases hq3 : 1048576 < q + (n1.size : Int) + (v1.size : Int)
            · go_wp2
              go_ret
              exact ⟨⟨_, rfl⟩, rfl⟩
            · go_wp2
              go_round
              case rel => exact ⟨k + 1, _, by omega, by omega, by omega, rfl, by go_num⟩
              case measure => simp [intOf]; omega
    · go_wp2
      go_ret
      exact ⟨⟨_, rfl⟩, rfl⟩

theorem env_none (a : Option Addr) (cap : Nat) (w : World) :
    Calls Try.prog 12 #[.slice a 0 cap] w fun e w' => e = .returned (.int .i64 0) ∧ w = w' := by
  go_enter Try.func12, Try.ntmps12
  go_wp2
  refine wp_loop_rounds 1 ?_
  rw [rounds_succ]
  go_wp2
  go_ret
  exact ⟨rfl, rfl⟩

/-- How 'envBytes' ends. -/
def EnvP (N V : Nat → ByteArray) (len : Nat) (w : World) (e : Ending) (w' : World) : Prop :=
  ∃ (r : Int) (n : Nat), e = .returned (.int .i64 r) ∧ (r ≤ 1048576 → ∀ j, j < len → (N j).size ≤ 1048576 ∧ (V j).size ≤ 1048576) ∧ w' = w.drewN n

set_option maxHeartbeats 1000000 in
theorem env_any (b off len cap : Nat) (N V : Nat → ByteArray) (w : World) (hl : len ≤ 9223372036854775807)
    (hN : ∀ j, j < len → w.cell? ⟨b, off + j * 2, none⟩ = some (.string (N j))) (hV : ∀ j, j < len → w.cell? ⟨b, off + j * 2 + 1, none⟩ = some (.string (V j))) :
    Calls Try.prog 12 #[.slice (some ⟨b, off, none⟩) len cap] w fun e w' => EnvP N V len w e w' := by
  go_enter Try.func12, Try.ntmps12
  go_wp2
  go_loopw [3, 4] (fun z i wr => ∃ (k : Nat) (q : Int) (n : Nat), k ≤ len ∧ 0 ≤ q ∧ q ≤ 1048576 ∧ z = .int .i64 q ∧ i = .int .i64 k ∧ Hid (∀ j, j < k → (N j).size ≤ 1048576 ∧ (V j).size ≤ 1048576) ∧ wr = w.drewN n) (fun _ i _ => len - (intOf i).toNat)
  case atStart => exact ⟨0, 0, 0, Nat.zero_le _, by omega, by omega, rfl, rfl, fun j hj => absurd hj (Nat.not_lt_zero _), rfl⟩
  case round =>
    obtain ⟨k, q, n, hk, hq0, hq1, rfl, rfl, HS, rfl⟩ := hrel
    by_cases hlt : k < len
    · have h1 := hN k hlt
      have h2 := hV k hlt
      clear hN hV
      have HT : (N k).size ≤ 1048576 → (V k).size ≤ 1048576 → Hid (∀ j, j < k + 1 → (N j).size ≤ 1048576 ∧ (V j).size ≤ 1048576) := fun a b j hj => by
        by_cases e : j = k
        · subst e; exact ⟨a, b⟩
        · exact HS.out j (by omega)
      clear HS
      generalize N k = n1 at h1 HT
      generalize V k = v1 at h2 HT
      by_cases hn : 1048576 < (n1.size : Int)
      · clear HT
        go_wp2
        go_ret
        exact ⟨_, _, rfl, fun h => absurd h (by omega), rfl⟩
      · have hn' : decide (1048576 < (n1.size : Int)) = false := by simpa using hn
        by_cases hv : 1048576 < (v1.size : Int)
        · clear HT
          go_wp2
          go_ret
          exact ⟨_, _, rfl, fun h => absurd h (by omega), rfl⟩
        · have HU := HT (by omega) (by omega)
          clear HT
          go_wp2
          go_quiet (fail)
          by_cases hb : 1048576 < q + ((n1.size : Int) + (v1.size : Int) + 32)
          · clear HU
            go_wp2
            go_ret
            exact ⟨_, _, rfl, fun h => absurd h (by omega), rfl⟩
          · go_wp2
            go_roundw
            case rel => exact ⟨k + 1, _, _, by omega, by omega, by omega, rfl, by go_num, HU, rfl⟩
            case measure => simp [intOf]; omega
    · have : k = len := by omega
      subst this
      go_wp2
      go_ret
      exact ⟨_, _, rfl, fun _ => HS.out, rfl⟩

def SameP (w : World) (e : Ending) (w' : World) : Prop := e = .returned (.bool true) ∧ ∃ n, w' = w.drewN n

set_option maxHeartbeats 1000000 in
theorem same_any (g1 g2 n c1 c2 : Nat) (S : Nat → ByteArray) (w : World) (hl : n ≤ 9223372036854775807)
    (h1 : ∀ j, j < n → w.cell? ⟨g1, j, none⟩ = some (.string (S j))) (h2 : ∀ j, j < n → w.cell? ⟨g2, j, none⟩ = some (.string (S j))) :
    Calls Try.prog 14 #[.slice (some ⟨g1, 0, none⟩) n c1, .slice (some ⟨g2, 0, none⟩) n c2] w fun e w' => SameP w e w' := by
  go_enter Try.func14, Try.ntmps14
  go_wp2
  go_loopw [5] (fun i wr => ∃ (k m : Nat), k ≤ n ∧ i = .int .i64 k ∧ wr = w.drewN m) (fun i _ => n - (intOf i).toNat)
  case atStart => exact ⟨0, 0, Nat.zero_le _, rfl, rfl⟩
  case round =>
    obtain ⟨k, m, hk, rfl, rfl⟩ := hrel
    by_cases hlt : k < n
    · have a1 := h1 k hlt
      have a2 := h2 k hlt
      clear h1 h2
      generalize S k = s1 at a1 a2
      go_wp2
      go_quiet (fail)
      go_wp2
      go_roundw
      case rel => exact ⟨k + 1, _, by omega, by go_num, rfl⟩
      case measure => simp [intOf]; omega
    · go_wp2
      go_ret
      exact ⟨rfl, _, rfl⟩
end Go.Proofs.Qxb6604301a.walks
