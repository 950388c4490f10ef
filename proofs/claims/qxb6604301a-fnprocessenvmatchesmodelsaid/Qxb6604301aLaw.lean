/-
  The law FnProcessEnvMatchesModel (5), out of the contracts.
-/
import Derived.Test.Qxb6604301aModel
namespace Go.Proofs.Qxb6604301a.walks
open Go.ChangeShapes Go.WideShapes Go.ChangeAt Go.RowKit Go.Maps
open Go.Proofs.Qxb6604301a.plain
set_option linter.unusedVariables false

/-- What is known of the slice that came in, in world w. -/
def Came (a : Option Addr) (len : Nat) (N V : Nat → ByteArray) (w : World) : Prop :=
  0 < len → ∃ b off, a = some ⟨b, off, none⟩ ∧ b < w.heap.size ∧ Pairs w b off len N V

theorem came_below {a : Option Addr} {len : Nat} {N V : Nat → ByteArray} {w w' : World} (h : Came a len N V w) (hb : Below w.heap.size w w') : Came a len N V w' := fun hl => by
  obtain ⟨b, off, e, hbw, hp⟩ := h hl
  refine ⟨b, off, e, Nat.lt_of_lt_of_le hbw hb.size, fun j hj => ⟨?_, ?_⟩⟩
  · exact (hb.cell (p := ⟨b, off + j * 2, none⟩) hbw).trans (hp j hj).1
  · exact (hb.cell (p := ⟨b, off + j * 2 + 1, none⟩) hbw).trans (hp j hj).2

theorem below_drewN {w w' : World} {n : Nat} (h : w' = w.drewN n) : Below w.heap.size w w' := by
  subst h
  exact ⟨rfl, rfl, rfl, Nat.le_refl _, fun _ _ => rfl⟩

theorem bytes_c (a : Option Addr) (len cap : Nat) (N V : Nat → ByteArray) (w : World) (hl : len ≤ 9223372036854775807) (hc : Came a len N V w) :
    Calls Try.prog 11 #[.slice a len cap] w fun e w' => ∃ x, e = .returned (.bool x) ∧ w = w' := by
  by_cases h0 : len = 0
  · subst h0
    exact (bytes_none a cap w).mono fun e w' ⟨⟨x, hx⟩, hw⟩ => ⟨x, hx, hw⟩
  · obtain ⟨b, off, rfl, hbw, hp⟩ := hc (by omega)
    exact (bytes_any b off len cap N V w hl (fun j hj => (hp j hj).1) (fun j hj => (hp j hj).2)).mono fun e w' ⟨⟨x, hx⟩, hw⟩ => ⟨x, hx, hw⟩

theorem env_c (a : Option Addr) (len cap : Nat) (N V : Nat → ByteArray) (w : World) (hl : len ≤ 9223372036854775807) (hc : Came a len N V w) :
    Calls Try.prog 12 #[.slice a len cap] w fun e w' => ∃ r : Int, e = .returned (.int .i64 r) ∧ (r ≤ 1048576 → ∀ j, j < len → (N j).size ≤ 1048576 ∧ (V j).size ≤ 1048576) ∧ Below w.heap.size w w' := by
  by_cases h0 : len = 0
  · subst h0
    exact (env_none a cap w).mono fun e w' ⟨hx, hw⟩ => ⟨0, hx, fun _ j hj => absurd hj (Nat.not_lt_zero _), by subst hw; exact Below.refl _ _⟩
  · obtain ⟨b, off, rfl, hbw, hp⟩ := hc (by omega)
    exact (env_any b off len cap N V w hl (fun j hj => (hp j hj).1) (fun j hj => (hp j hj).2)).mono fun e w' ⟨r, n, hx, hr, hw⟩ => ⟨r, hx, hr, below_drewN hw⟩

/-- A copy: where it lies. -/
def Copied (len : Nat) (N V : Nat → ByteArray) (w : World) (e : Ending) (w' : World) : Prop :=
  ∃ a' cap', e = .returned (.slice a' len cap') ∧ Came a' len N V w' ∧ Below w.heap.size w w' ∧ (a' = none → len = 0 ∧ cap' = 0)

theorem copied_of {len : Nat} {N V : Nat → ByteArray} {w w' : World} {e : Ending} (h : CopyP N V len w e w') : Copied len N V w e w' := by
  obtain ⟨he, hb, hz, hp⟩ := h
  exact ⟨_, _, he, fun _ => ⟨_, _, rfl, hz, hp⟩, hb, fun h => by cases h⟩

theorem clone_c (a : Option Addr) (len cap : Nat) (N V : Nat → ByteArray) (w : World) (hl : len ≤ 4096) (hn : a = none → len = 0 ∧ cap = 0) (hc : Came a len N V w) :
    Calls Try.prog 13 #[.slice a len cap] w fun e w' => Copied len N V w e w' := by
  cases a with
  | none =>
    obtain ⟨rfl, rfl⟩ := hn rfl
    exact (clone_nil w).mono fun e w' ⟨he, hw⟩ => ⟨none, 0, he, fun h => absurd h (Nat.lt_irrefl _), by subst hw; exact Below.refl _ _, fun _ => ⟨rfl, rfl⟩⟩
  | some x =>
    refine (clone_any x len cap N V w hl (fun h => ?_)).mono fun e w' h => copied_of h
    obtain ⟨b, off, e, r⟩ := hc h
    exact ⟨b, off, by simpa using e, r⟩

theorem toAPI_c (a : Option Addr) (len cap : Nat) (N V : Nat → ByteArray) (w : World) (hl : len ≤ 4096) (hn : a = none → len = 0 ∧ cap = 0) (hc : Came a len N V w) :
    Calls Try.prog 16 #[.slice a len cap] w fun e w' => Copied len N V w e w' := by
  cases a with
  | none =>
    obtain ⟨rfl, rfl⟩ := hn rfl
    exact (toAPI_nil w).mono fun e w' ⟨he, hw⟩ => ⟨none, 0, he, fun h => absurd h (Nat.lt_irrefl _), by subst hw; exact Below.refl _ _, fun _ => ⟨rfl, rfl⟩⟩
  | some x =>
    refine (toAPI_any x len cap N V w hl (fun h => ?_)).mono fun e w' h => copied_of h
    obtain ⟨b, off, e, r⟩ := hc h
    exact ⟨b, off, by simpa using e, r⟩

/-- A list of strings in memory of the call's own, its value written out. -/
def ListQ (L : List ByteArray) (w : World) (e : Ending) (w' : World) : Prop :=
  ∃ g c, e = .returned (.slice (some ⟨g, 0, none⟩) L.length c) ∧ Below w.heap.size w w' ∧ g < w'.heap.size ∧ ∀ j, j < L.length → w'.cell? ⟨g, j, none⟩ = some (.string (nmAt L j))

theorem listQ_of {L : List ByteArray} {w w' : World} {e : Ending} (hn : 0 < L.length) (h : ListP L w e w') : ListQ L w e w' := by
  obtain ⟨v, he, hb, hr⟩ := h
  have hx : ∃ g c, v = .slice (some ⟨g, 0, none⟩) L.length c := by
    rcases hr.2 with ⟨_, h0⟩ | ⟨g', c', _, hv, _⟩
    · omega
    · exact ⟨g', c', hv⟩
  obtain ⟨g, c, rfl⟩ := hx
  refine ⟨g, c, he, hb, (hr.lt g rfl).2, fun j hj => ?_⟩
  rw [hr.cellAt j (by omega), List.getElem?_map, List.getElem?_eq_getElem hj]
  simp [nmAt, hj]

theorem env_pos (N V : Nat → ByteArray) (k : Nat) : 0 < (envL N V k).length ∧ (envL N V k).length ≤ k + 1 := by
  rw [envL_len]; exact ns_len N k

theorem zzproc_c (a : Option Addr) (len cap : Nat) (N V : Nat → ByteArray) (w : World) (hl : len ≤ 4096) (hsz : ∀ j, j < len → (N j).size ≤ 1048576 ∧ (V j).size ≤ 1048576) (hc : Came a len N V w) :
    Calls Try.prog 15 #[.slice a len cap] w fun e w' => ListQ (envL N V len) w e w' := by
  go_enter Try.func15, Try.ntmps15
  go_wp2_with fail
  refine (proc_any a len cap N V w hl hsz hc).mono ?_
  intro e w' h
  obtain ⟨g, c, rfl, hb, hg, hx⟩ := listQ_of (env_pos N V len).1 h
  go_wp2
  go_ret
  exact ⟨g, c, rfl, hb, hg, hx⟩

theorem model_c (a : Option Addr) (len cap : Nat) (N V : Nat → ByteArray) (w : World) (hl : len ≤ 4096) (hsz : ∀ j, j < len → (N j).size ≤ 1048576 ∧ (V j).size ≤ 1048576) (hc : Came a len N V w) :
    Calls Try.prog 17 #[.slice a len cap] w fun e w' => ListQ (envL N V len) w e w' :=
  (model_any a len cap N V w hl hsz hc).mono fun e w' h => listQ_of (env_pos N V len).1 h

/-- It returns true, and of what was there nothing has turned. -/
def LawP (w : World) (e : Ending) (w' : World) : Prop := e = .returned (.bool true) ∧ Below w.heap.size w w'

set_option maxHeartbeats 1000000 in
theorem law_any (a : Option Addr) (len cap : Nat) (N V : Nat → ByteArray) (w : World) (hl : len ≤ 9223372036854775807) (hn : a = none → len = 0 ∧ cap = 0) (hc : Came a len N V w) :
    Calls Try.prog 5 #[.slice a len cap] w fun e w' => LawP w e w' := by
  go_enter Try.func5, Try.ntmps5
  go_wp2_with fail
  refine (bytes_c a len cap N V w hl hc).mono ?_
  rintro e w' ⟨x, rfl, rfl⟩
  cases x with
  | false =>
    go_wp2
    go_ret
    exact ⟨rfl, Below.refl _ _⟩
  | true =>
  by_cases hbig : 4096 < len
  · go_wp2
    go_ret
    exact ⟨rfl, Below.refl _ _⟩
  have hl2 : len ≤ 4096 := by omega
  go_wp2_with fail
  refine (env_c a len cap N V w hl hc).mono ?_
  rintro e w0 ⟨r, rfl, hr, hb0⟩
  by_cases hr1 : 1048576 < r
  · go_wp2
    go_ret
    exact ⟨rfl, hb0⟩
  have hsz := hr (by omega)
  have hc0 := came_below hc hb0
  clear hr hc
  go_wp2_with fail
  refine (clone_c a len cap N V w0 hl2 hn hc0).mono ?_
  rintro e w1 ⟨a1, cap1, rfl, hc1, hb1, hn1⟩
  clear hc0 hn
  go_wp2_with fail
  refine (toAPI_c a1 len cap1 N V w1 hl2 hn1 hc1).mono ?_
  rintro e w2 ⟨a2, cap2, rfl, hc2, hb2, hn2⟩
  have hc1' := came_below hc1 hb2
  clear hc1
  go_wp2_with fail
  refine (zzproc_c a2 len cap2 N V w2 hl2 hsz hc2).mono ?_
  rintro e w3 ⟨g3, c3, rfl, hb3, hg3, hx3⟩
  have hc3 := came_below hc1' hb3
  clear hc1' hc2
  go_wp2_with fail
  refine (model_c a1 len cap1 N V w3 hl2 hsz hc3).mono ?_
  rintro e w4 ⟨g4, c4, rfl, hb4, hg4, hx4⟩
  have hx3' : ∀ j, j < (envL N V len).length → w4.cell? ⟨g3, j, none⟩ = some (.string (nmAt (envL N V len) j)) := fun j hj => (hb4.cell (p := ⟨g3, j, none⟩) hg3).trans (hx3 j hj)
  have hle := (env_pos N V len).2
  clear hc3 hx3 hsz
  go_wp2_with fail
  refine (same_any g3 g4 (envL N V len).length c3 c4 (nmAt (envL N V len)) w4 (by omega) hx3' hx4).mono ?_
  rintro e w5 ⟨rfl, n5, hw5⟩
  have hb5 := below_drewN hw5
  have z0 := hb0.size
  have z1 := hb1.size
  have z2 := hb2.size
  have z3 := hb3.size
  have z4 := hb4.size
  have hall : Below w.heap.size w w5 := ((((hb0.trans (hb1.mono z0)).trans (hb2.mono (by omega))).trans (hb3.mono (by omega))).trans (hb4.mono (by omega))).trans (hb5.mono (by omega))
  clear hw5 hx3' hx4
  go_wp2
  go_ret
  exact ⟨rfl, hall⟩
end Go.Proofs.Qxb6604301a.walks
