/-
  The contracts of 'cloneEnvL' (13) and 'toAPI' (16): each lays one new block of pairs of strings.
-/
import Derived.Test.Qxb6604301aReads
import Derived.WalkSpells
import Derived.BigRegion
namespace Go.Proofs.Qxb6604301a.walks
open Go.ChangeShapes Go.WideShapes Go.ChangeAt Go.RowKit
set_option linter.unusedVariables false

theorem Try.info37 : (Try.prog.info? 37).map (fun i => (i.zero, i.size, i.bytes)) = some (some (.agg #[.string ByteArray.empty, .string ByteArray.empty]), 2, 32) := by kernel_rfl
theorem Try.info39 : (Try.prog.info? 39).map (fun i => (i.zero, i.size, i.bytes)) = some (some (.agg #[.string ByteArray.empty, .string ByteArray.empty]), 2, 32) := by kernel_rfl
theorem Try.info9 : (Try.prog.info? 9).map (fun i => (i.zero, i.size, i.bytes)) = some (some (.string ByteArray.empty), 1, 16) := by kernel_rfl

/-- Block b holds, from cell 'off' on, the pairs (N j, V j). -/
def Pairs (w : World) (b off len : Nat) (N V : Nat → ByteArray) : Prop :=
  ∀ j, j < len → w.cell? ⟨b, off + j * 2, none⟩ = some (.string (N j)) ∧ w.cell? ⟨b, off + j * 2 + 1, none⟩ = some (.string (V j))

def CopyP (N V : Nat → ByteArray) (len : Nat) (w : World) (e : Ending) (w' : World) : Prop :=
  e = .returned (.slice (some ⟨w.heap.size, 0, none⟩) len len) ∧ Below w.heap.size w w' ∧ w.heap.size < w'.heap.size ∧ Pairs w' w.heap.size 0 len N V

/-- The list of cells that is filled so far. -/
def Filled (N V : Nat → ByteArray) (k : Nat) (xs : List Value) : Prop := ∀ j, j < k → xs[j * 2]? = some (.string (N j)) ∧ xs[j * 2 + 1]? = some (.string (V j))

theorem filled_step {N V : Nat → ByteArray} {k : Nat} {xs : List Value} (h : Filled N V k xs) (hl : k * 2 + 1 < xs.length) :
    Filled N V (k + 1) ((xs.set (k * 2) (.string (N k))).set (k * 2 + 1) (.string (V k))) := by
  intro j hj
  by_cases e : j = k
  · subst e
    constructor
    · rw [List.getElem?_set_ne (by omega), List.getElem?_set_self (by omega)]
    · rw [List.getElem?_set_self (by simp; omega)]
  · have := h j (by omega)
    constructor
    · rw [List.getElem?_set_ne (by omega), List.getElem?_set_ne (by omega)]; exact this.1
    · rw [List.getElem?_set_ne (by omega), List.getElem?_set_ne (by omega)]; exact this.2

theorem pairs_of {w : World} {base g e len : Nat} {N V : Nat → ByteArray} {xs : List Value} (hown : w.ownsRow base e 2 (.slice (some ⟨g, 0, none⟩) len len) len xs) (hf : Filled N V len xs) : Pairs w g 0 len N V := by
  intro j hj
  have h := hf j hj
  rw [Nat.zero_add]
  exact ⟨by rw [hown.cellAt (j * 2) (by omega)]; exact h.1, by rw [hown.cellAt (j * 2 + 1) (by omega)]; exact h.2⟩

theorem cell_some {w : World} {base g e len : Nat} {xs : List Value} (hown : w.ownsRow base e 2 (.slice (some ⟨g, 0, none⟩) len len) len xs) (j : Nat) (hj : j < len * 2) : ∃ v, w.cell? ⟨g, j, none⟩ = some v := by
  rw [hown.cellAt j hj]
  have : j < xs.length := by rw [hown.1]; exact hj
  exact ⟨_, List.getElem?_eq_getElem this⟩

theorem clone_nil (w : World) :
    Calls Try.prog 13 #[.slice none 0 0] w fun e w' => e = .returned (.slice none 0 0) ∧ w = w' := by
  have hnil := fun w a n c => Lib.run_eql_slice_nil (P := Try.prog) w 24 37 a n c 0 0 Try.underlying24
  go_enter Try.func13, Try.ntmps13
  go_wp2
  go_ret
  exact ⟨rfl, rfl⟩

set_option maxHeartbeats 1000000 in
theorem clone_any (a : Addr) (len cap : Nat) (N V : Nat → ByteArray) (w : World) (hl : len ≤ 4096)
    (hc : 0 < len → ∃ b off, a = ⟨b, off, none⟩ ∧ b < w.heap.size ∧ Pairs w b off len N V) :
    Calls Try.prog 13 #[.slice (some a) len cap] w fun e w' => CopyP N V len w e w' := by
  have hnil := fun w a n c => Lib.run_eql_slice_nil (P := Try.prog) w 24 37 a n c 0 0 Try.underlying24
  obtain ⟨i0, hi, hz0, hz1, hz2⟩ := info_parts Try.info37
  go_enter Try.func13, Try.ntmps13
  go_wp2_with (at_make; refine wpList_make_full _ rfl _ _ 24 rfl w.heap.size 37 i0 _ 2 Try.underlying24 hi hz0 hz1 _ _ _ _ len rfl rfl rfl rfl (by rw [hz2]; omega) (by unfold maxLen; omega) (Nat.le_refl _) ?_; intro w1 hown hgrow)
  have hbl : Below w.heap.size w w1 := (Below.refl _ _).grown hgrow (Nat.le_refl _) (fun k hk => by cases hk)
  go_loopw [4] (fun i wr => ∃ (k : Nat) (xs : List Value), k ≤ len ∧ i = .int .i64 k ∧ Below w.heap.size w wr ∧ wr.ownsRow w.heap.size 37 2 (.slice (some ⟨w.heap.size, 0, none⟩) len len) len xs ∧ Filled N V k xs) (fun i _ => len - (intOf i).toNat)
  case atStart => exact ⟨0, _, Nat.zero_le _, rfl, hbl, hown, fun j hj => absurd hj (Nat.not_lt_zero _)⟩
  case round =>
    obtain ⟨k, xs, hk, rfl, hb, hown, hf⟩ := hrel
    by_cases hlt : k < len
    · obtain ⟨b, off, rfl, hbw, hp⟩ := hc (by omega)
      have h1 := (hb.cell (p := ⟨b, off + k * 2, none⟩) hbw).trans (hp k hlt).1
      have h2 := (hb.cell (p := ⟨b, off + k * 2 + 1, none⟩) hbw).trans (hp k hlt).2
      obtain ⟨v1, e1⟩ := cell_some hown (k * 2) (by omega)
      obtain ⟨v2, e2⟩ := cell_some hown (k * 2 + 1) (by omega)
      have f1 := hown.frozenAt (k * 2)
      have f2 := hown.frozenAt (k * 2 + 1)
      clear hp hc
      go_wp2
      go_roundw
      case rel =>
        have hx : k * 2 + 1 < xs.length := by rw [hown.1]; omega
        have s1 := hown.stored (k * 2) (.string (N k))
        have s2 := s1.1.stored (k * 2 + 1) (.string (V k))
        exact ⟨k + 1, _, by omega, by go_num, (hb.setCell (Nat.le_refl _) _).setCell (Nat.le_refl _) _, s2.1, filled_step hf hx⟩
      case measure => simp [intOf]; omega
    · have : k = len := by omega
      subst this
      go_wp2
      go_ret
      have hlt := (hown.lt w.heap.size rfl).2
      exact ⟨rfl, hb, hlt, pairs_of hown hf⟩

theorem toAPI_nil (w : World) :
    Calls Try.prog 16 #[.slice none 0 0] w fun e w' => e = .returned (.slice none 0 0) ∧ w = w' := by
  have hnil := fun w a n c => Lib.run_eql_slice_nil (P := Try.prog) w 24 37 a n c 0 0 Try.underlying24
  go_enter Try.func16, Try.ntmps16
  go_wp2
  go_ret
  exact ⟨rfl, rfl⟩

set_option maxHeartbeats 1000000 in
theorem toAPI_any (a : Addr) (len cap : Nat) (N V : Nat → ByteArray) (w : World) (hl : len ≤ 4096)
    (hc : 0 < len → ∃ b off, a = ⟨b, off, none⟩ ∧ b < w.heap.size ∧ Pairs w b off len N V) :
    Calls Try.prog 16 #[.slice (some a) len cap] w fun e w' => CopyP N V len w e w' := by
  have hnil := fun w a n c => Lib.run_eql_slice_nil (P := Try.prog) w 24 37 a n c 0 0 Try.underlying24
  obtain ⟨i0, hi, hz0, hz1, hz2⟩ := info_parts Try.info39
  go_enter Try.func16, Try.ntmps16
  go_wp2_with (at_make; refine wpList_make_full _ rfl _ _ 31 rfl w.heap.size 39 i0 _ 2 Try.underlying31 hi hz0 hz1 _ _ _ _ len rfl rfl rfl rfl (by rw [hz2]; omega) (by unfold maxLen; omega) (Nat.le_refl _) ?_; intro w1 hown hgrow)
  have hbl : Below w.heap.size w w1 := (Below.refl _ _).grown hgrow (Nat.le_refl _) (fun k hk => by cases hk)
  go_loopw [4] (fun i wr => ∃ (k : Nat) (xs : List Value), k ≤ len ∧ i = .int .i64 k ∧ Below w.heap.size w wr ∧ wr.ownsRow w.heap.size 39 2 (.slice (some ⟨w.heap.size, 0, none⟩) len len) len xs ∧ Filled N V k xs) (fun i _ => len - (intOf i).toNat)
  case atStart => exact ⟨0, _, Nat.zero_le _, rfl, hbl, hown, fun j hj => absurd hj (Nat.not_lt_zero _)⟩
  case round =>
    obtain ⟨k, xs, hk, rfl, hb, hown, hf⟩ := hrel
    by_cases hlt : k < len
    · obtain ⟨b, off, rfl, hbw, hp⟩ := hc (by omega)
      have h1 := (hb.cell (p := ⟨b, off + k * 2, none⟩) hbw).trans (hp k hlt).1
      have h2 := (hb.cell (p := ⟨b, off + k * 2 + 1, none⟩) hbw).trans (hp k hlt).2
      obtain ⟨v1, e1⟩ := cell_some hown (k * 2) (by omega)
      obtain ⟨v2, e2⟩ := cell_some hown (k * 2 + 1) (by omega)
      have f1 := hown.frozenAt (k * 2)
      have f2 := hown.frozenAt (k * 2 + 1)
      clear hp hc
      go_wp2
      go_region
      go_wp2
      go_roundw
      case rel =>
        have hx : k * 2 + 1 < xs.length := by rw [hown.1]; omega
        have s1 := hown.stored (k * 2) (.string (N k))
        have s2 := s1.1.stored (k * 2 + 1) (.string (V k))
        exact ⟨k + 1, _, by omega, by go_num, ((hb.setCell (Nat.le_refl _) _).setCell (Nat.le_refl _) _).drew, s2.1.drew, filled_step hf hx⟩
      case measure => simp [intOf]; omega
    · have : k = len := by omega
      subst this
      go_wp2
      go_ret
      have hlt := (hown.lt w.heap.size rfl).2
      exact ⟨rfl, hb, hlt, pairs_of hown hf⟩
end Go.Proofs.Qxb6604301a.walks
