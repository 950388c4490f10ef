/-
  The contract of 'processEnv' (20).
-/
import Derived.Test.Qxb6604301aCopies
import Derived.Test.Qxb6604301aMap
namespace Go.Proofs.Qxb6604301a.walks
open Go.ChangeShapes Go.WideShapes Go.ChangeAt Go.RowKit Go.Maps
open Go.Proofs.Qxb6604301a.plain
set_option linter.unusedVariables false

theorem law9 : Keyed Try.prog 9 := string_keyed Try.underlying9
theorem zero3 (w : World) : (zeroValue 3).run Try.prog w = .ok (.int .i64 0) w := by kernel_rfl

/-- It ends in a slice of the call's own that holds the strings L. -/
def ListP (L : List ByteArray) (w : World) (e : Ending) (w' : World) : Prop :=
  ∃ v, e = .returned v ∧ Below w.heap.size w w' ∧ w'.ownsRow w.heap.size 9 1 v L.length (L.map Value.string)

/-- The map's literal: whatever the env's first block is. -/
theorem lit_map (N : Nat → ByteArray) (w : World) (O : Obj) : ∃ w1, Sem.run Try.prog (Instr.mapUpdate 48 (.map (some (w.heap.size + 1))) (.string ⟨#[80, 65, 84, 72]⟩) (.int .i64 0)) ((w.alloc O).alloc (.map #[] 0)) = .ok () w1 ∧
    w1.ownsMap Try.prog 9 (plainElem (H := Unit) Try.prog 3) (w.heap.size + 1) 1 (atD N 0) ∧ ((w.alloc O).alloc (.map #[] 0)).grownBy w1 (some (w.heap.size + 1)) := by
  have h := World.ownsMap_made (w.alloc O) Try.prog 9 (plainElem (H := Unit) Try.prog 3)
  have e : (w.alloc O).heap.size = w.heap.size + 1 := by simp
  rw [e] at h
  exact h.update law9 Try.underlying48 (by decide) (WideMaps.keyOf_string_mk Try.underlying9 (by decide)) (plainElem_int Try.underlying3 (by decide))

/-- What holds at the loop's head, behind k settings. -/
structure ProcR (N V : Nat → ByteArray) (w : World) (k g c : Nat) (wr : World) : Prop where
  row : wr.ownsRow w.heap.size 9 1 (.slice (some ⟨g, 0, none⟩) (ns N k).length c) (ns N k).length ((envL N V k).map Value.string)
  map : wr.ownsMap Try.prog 9 (plainElem (H := Unit) Try.prog 3) (w.heap.size + 1) (k + 1) (atD N k)
  low : Below w.heap.size w wr
  big : w.heap.size + 2 ≤ wr.heap.size

theorem proc_start {N V : Nat → ByteArray} {w W : World} {s : ByteArray} (hs : ent pathN defV = s) (hm : W.ownsMap Try.prog 9 (plainElem (H := Unit) Try.prog 3) (w.heap.size + 1) 1 (atD N 0))
    (hg : ((w.alloc (.cells #[.string s] 9)).alloc (.map #[] 0)).grownBy W (some (w.heap.size + 1))) : ProcR N V w 0 w.heap.size 1 W := by
  have r0 := World.ownsRow_lit (base := w.heap.size) (e := 9) (size := 1) w #[.string s] 1 (Nat.le_refl _) (by decide) rfl
  have r1 := (r0.alloc (.map #[] 0)).kept hg (Or.inr (by simp [Value.ownBlock]))
  have b1 := (((Below.refl w.heap.size w).alloc (Nat.le_refl _) (.cells #[.string s] 9)).alloc (by simp) (.map #[] 0)).grown hg (by simp; omega) (fun k hk => by cases hk; omega)
  have hz := hg.size
  simp at hz
  refine ⟨?_, hm, b1, by omega⟩
  rw [envL_zero, hs]
  exact r1

theorem row_ne_map {w : World} {base e g n c b m : Nat} {xs : List Value} {D : DataW Unit} {R : Value → Option (DataW Unit × List MemPlace)} (h : w.ownsRow base e 1 (.slice (some ⟨g, 0, none⟩) n c) n xs) (hm : w.ownsMap Try.prog 9 R b m D) : b ≠ g := by
  rintro rfl
  obtain ⟨es, clock, hb, _⟩ := hm
  rcases h.2 with ⟨h', _⟩ | ⟨g', cap', cur, h', _, hg, _⟩
  · simp at h'
  · simp only [Value.slice.injEq, Option.some.injEq, Addr.mk.injEq, and_true, true_and] at h'
    obtain ⟨rfl, rfl⟩ := h'
    rw [hb] at hg
    cases hg

theorem map_set {L : List ByteArray} {i : Nat} {s : ByteArray} : (L.map Value.string).set i (.string s) = (L.set i s).map Value.string := by
  rw [List.map_set]

theorem proc_hit {N V : Nat → ByteArray} {w wr : World} {k g c i : Nat} (h : ProcR N V w k g c wr) (o : Obj) (hi : i < (ns N k).length) (hn : (ns N k)[i] = N k) :
    ProcR N V w (k + 1) g c ((wr.alloc o).setCell ⟨g, i, none⟩ (.string (ent (N k) (V k)))) := by
  have hm : N k ∈ ns N k := by rw [← hn]; exact List.getElem_mem hi
  have hne := row_ne_map h.row h.map
  have st := (h.row.alloc o).stored i (.string (ent (N k) (V k)))
  have hlt := h.row.lt g rfl
  have hb := h.big
  refine ⟨?_, ?_, (h.low.alloc h.low.size o).setCell hlt.1 _, ?_⟩
  · rw [envL_old hi hn, ns_old hm, ← map_set]
    exact st.1
  · rw [at_old hm]
    exact ((h.map.alloc o).setCell (a := ⟨g, i, none⟩) hne _).mono (by omega)
  · have : wr.heap.size ≤ ((wr.alloc o).setCell ⟨g, i, none⟩ (.string (ent (N k) (V k)))).heap.size := by simp [World.setCell]
    omega

theorem proc_miss {N V : Nat → ByteArray} {w wr w1 w2 : World} {k g c : Nat} {v' : Value} (h : ProcR N V w k g c wr) (o o2 : Obj) (hn : ¬ N k ∈ ns N k)
    (hm1 : w1.ownsMap Try.prog 9 (plainElem (H := Unit) Try.prog 3) (w.heap.size + 1) (k + 1 + 1) ((atD N k).put (keyL (N k)) (.lit (.int .i64 ((ns N k).length : Nat)))))
    (hg1 : (wr.alloc o).grownBy w1 (some (w.heap.size + 1)))
    (hr2 : w2.ownsRow w.heap.size 9 1 v' ((ns N k).length + 1) ((envL N V k).map Value.string ++ [.string (ent (N k) (V k))]))
    (hg2 : (w1.alloc o2).grownBy w2 (some g)) : ∃ g' c', v' = .slice (some ⟨g', 0, none⟩) (ns N (k + 1)).length c' ∧ ProcR N V w (k + 1) g' c' w2 := by
  have hne := row_ne_map h.row h.map
  have hb := h.big
  have hlt := h.row.lt g rfl
  have s1 := hg1.size
  have s2 := hg2.size
  simp at s1 s2
  have el : (ns N (k + 1)).length = (ns N k).length + 1 := by rw [ns_new hn]; simp
  have hx : ∃ g' c', v' = .slice (some ⟨g', 0, none⟩) (ns N (k + 1)).length c' := by
    rcases hr2.2 with ⟨_, h0⟩ | ⟨g', c', _, hv, _⟩
    · omega
    · exact ⟨g', c', by rw [el]; exact hv⟩
  obtain ⟨g', c', hv⟩ := hx
  refine ⟨g', c', hv, ?_, ?_, ?_, by omega⟩
  · rw [envL_new hn, List.map_append, List.map_singleton, ← hv, el]
    exact hr2
  · rw [at_new hn]
    exact (hm1.alloc o2).kept hg2 (by simpa using hne)
  · exact ((((h.low.alloc h.low.size o).grown hg1 (by simp; omega) (fun j hj => by cases hj; omega)).alloc (by omega) o2).grown hg2 (by simp; omega) (fun j hj => by cases hj; exact hlt.1))

theorem proc_cell {N V : Nat → ByteArray} {w wr : World} {k g c i : Nat} (h : ProcR N V w k g c wr) (hi : i < (ns N k).length) : ∃ x, ∀ o, (wr.alloc o).cell? ⟨g, i, none⟩ = some x := by
  have hl : i < ((envL N V k).map Value.string).length := by rw [List.length_map, envL_len]; exact hi
  exact ⟨((envL N V k).map Value.string)[i], fun o => by rw [(h.row.alloc o).cellAt i (by omega), List.getElem?_eq_getElem hl]⟩

theorem one_string (s : ByteArray) : ∀ u ∈ [Value.string s], u.oneCell' = true := by
  intro u hu
  simp at hu
  subst hu
  rfl

theorem lit_int {a b : Int} (h : (DataW.lit (.int .i64 a) : DataW Unit) = .lit (.int .i64 b)) : a = b := by
  simpa using h

set_option maxHeartbeats 2000000 in
theorem proc_any (a : Option Addr) (len cap : Nat) (N V : Nat → ByteArray) (w : World) (hl : len ≤ 4096)
    (hsz : ∀ j, j < len → (N j).size ≤ 1048576 ∧ (V j).size ≤ 1048576)
    (hc : 0 < len → ∃ b off, a = some ⟨b, off, none⟩ ∧ b < w.heap.size ∧ Pairs w b off len N V) :
    Calls Try.prog 20 #[.slice a len cap] w fun e w' => ListP (envL N V len) w e w' := by
  have hmm := @run_makeMap Try.prog
  obtain ⟨i0, hi, hz0, hz1, hz2⟩ := info_parts Try.info9
  obtain ⟨W1, hW⟩ := Classical.skolem.mp (lit_map N w)
  have hrun := fun O => (hW O).1
  have HW : Hid (∀ O, (W1 O).ownsMap Try.prog 9 (plainElem (H := Unit) Try.prog 3) (w.heap.size + 1) 1 (atD N 0) ∧ ((w.alloc O).alloc (.map #[] 0)).grownBy (W1 O) (some (w.heap.size + 1))) := fun O => (hW O).2
  clear hW
  go_enter Try.func20, Try.ntmps20
  go_wp2_with fail
  go_loopw [3, 15] (fun v i wr => ∃ (k g c : Nat), k ≤ len ∧ i = .int .i64 k ∧ v = .slice (some ⟨g, 0, none⟩) (ns N k).length c ∧ ProcR N V w k g c wr) (fun _ i _ => len - (intOf i).toNat)
  case atStart => exact ⟨0, w.heap.size, 1, Nat.zero_le _, rfl, rfl, proc_start ent_path (HW.out _).1 (HW.out _).2⟩
  case round =>
    obtain ⟨k, g, c, hk, rfl, rfl, hR⟩ := hrel
    clear hrun HW
    by_cases hlt : k < len
    · obtain ⟨b, off, rfl, hbw, hp⟩ := hc (by omega)
      have h1 := (hR.low.cell (p := ⟨b, off + k * 2, none⟩) hbw).trans (hp k hlt).1
      have h2 := (hR.low.cell (p := ⟨b, off + k * 2 + 1, none⟩) hbw).trans (hp k hlt).2
      have hs1 := (hsz k hlt).1
      have hs2 := (hsz k hlt).2
      have hnl := (ns_len N k)
      have hkey : keyOf Try.prog 9 (.string (N k)) = some (keyL (N k)) := WideMaps.keyOf_string_mk Try.underlying9 (by unfold maxLen; omega)
      clear hp hc hsz
      by_cases hin : N k ∈ ns N k
      · obtain ⟨i, hi2, hni⟩ := List.getElem_of_mem hin
        have hh : Maps.has (atD N k) (keyL (N k)) = true := (has_at N (N k) k).trans (memB_iff.mpr hin)
        obtain ⟨x1, e1⟩ := proc_cell hR hi2
        have f1 : ∀ o, (wr.alloc o).frozen? ⟨g, i, none⟩ = false := fun o => (hR.row.alloc o).frozenAt i
        have HA : ∀ ci : Int, (atD N k).atKey (keyL (N k)) (.lit (.int .i64 0)) = .lit (.int .i64 ci) → ci = (i : Int) := fun ci h => lit_int (h.symm.trans (atKey_at N (N k) _ k i hi2 hni))
        have HN : Hid ((ns N k)[i] = N k) := hni
        clear hni hin
        go_wp2_with (at_lookup; refine wpList_lookup_own_ok_int _ rfl _ _ 48 rfl 9 3 .i64 law9 Try.underlying48 Try.underlying3 (zero3 _) (w.heap.size + 1) (k + 1) _ rfl (hR.map.alloc _) _ _ rfl hkey ?_; intro ci hat hwc; have hci := HA ci hat; subst hci; clear hat hwc HA)
        go_roundw
        case rel => exact ⟨k + 1, g, c, by omega, by go_num, by rw [ns_old (by rw [← HN.out]; exact List.getElem_mem hi2)], proc_hit hR _ hi2 HN.out⟩
        case measure => simp [intOf]; omega
      · have hh : Maps.has (atD N k) (keyL (N k)) = false := (has_at N (N k) k).trans (memB_no hin)
        have HI : Hid (¬ N k ∈ ns N k) := hin
        clear hin
        have hne := row_ne_map hR.row hR.map
        have HK : ∀ o w1, (wr.alloc o).grownBy w1 (some (w.heap.size + 1)) → w1.ownsRow w.heap.size 9 1 (.slice (some ⟨g, 0, none⟩) (ns N k).length c) (ns N k).length ((envL N V k).map Value.string) := fun o w1 hg => (hR.row.alloc o).kept hg (Or.inr (by simp [Value.ownBlock]; omega))
        have hbig := hR.big
        go_wp2_with (first
          | (at_lookup; refine wpList_lookup_own_ok_int _ rfl _ _ 48 rfl 9 3 .i64 law9 Try.underlying48 Try.underlying3 (zero3 _) (w.heap.size + 1) (k + 1) _ rfl (hR.map.alloc _) _ _ rfl hkey ?_; intro ci hat hwc; clear hat hwc)
          | (at_mapUpdate; refine wpList_mapUpdate_own _ rfl _ _ _ 48 rfl 9 3 law9 Try.underlying48 (plainElem (H := Unit) Try.prog 3) (w.heap.size + 1) (k + 1) _ rfl (hR.map.alloc _) (by unfold maxLen; omega) _ _ _ rfl rfl hkey _ [] (plainElem_int Try.underlying3 (WalkArith.wf_i64 (by omega))) ?_; intro w1 hm1 hg1)
          | (at_builtin; refine wpList_append_own _ rfl (.tmp 42) (.tmp 44) 29 rfl w.heap.size 9 i0 (.string ByteArray.empty) 1 16 Try.underlying29 hi hz0 hz1 hz2 rfl (by decide) _ _ _ rfl ((HK _ _ hg1).alloc _) ⟨w1.heap.size, 0, none⟩ 1 1 [.string (N k ++ ⟨#[61]⟩ ++ V k)] rfl rfl (cell_one_new _ _ _) (one_string _) (by unfold maxLen; omega) (by omega) (by have := hg1.size; simp at this ⊢; omega) ?_; intro v' w2 hr2 hg2 hnil2))
        go_roundw
        case rel =>
          obtain ⟨g', c', hv, hR'⟩ := proc_miss hR _ _ HI.out hm1 hg1 hr2 hg2
          exact ⟨k + 1, g', c', by omega, by go_num, hv, hR'⟩
        case measure => simp [intOf]; omega
    · have : k = len := by omega
      subst this
      go_wp2
      go_ret
      exact ⟨_, rfl, hR.low, by rw [envL_len]; exact hR.row⟩
end Go.Proofs.Qxb6604301a.walks
