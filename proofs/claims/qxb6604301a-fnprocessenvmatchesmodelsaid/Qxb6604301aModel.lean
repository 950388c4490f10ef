/-
  The contract of 'envModel' (17).
-/
import Derived.Test.Qxb6604301aProc
namespace Go.Proofs.Qxb6604301a.walks
open Go.ChangeShapes Go.WideShapes Go.ChangeAt Go.RowKit Go.Maps
open Go.Proofs.Qxb6604301a.plain
set_option linter.unusedVariables false

/-- The names' row. -/
def nmAt (L : List ByteArray) (q : Nat) : ByteArray := L.getD q ByteArray.empty

structure NamesR (L : List ByteArray) (w : World) (cap : Nat) (wr : World) : Prop where
  row : wr.ownsRow w.heap.size 9 1 (.slice (some ⟨w.heap.size, 0, none⟩) L.length cap) L.length (L.map Value.string)
  low : Below w.heap.size w wr

theorem NamesR.cell {L : List ByteArray} {w wr : World} {cap q : Nat} (h : NamesR L w cap wr) (hq : q < L.length) : wr.cell? ⟨w.heap.size, q, none⟩ = some (.string (nmAt L q)) := by
  rw [h.row.cellAt q (by omega), List.getElem?_map, List.getElem?_eq_getElem hq]
  simp [nmAt, hq]

theorem nm_mem {L : List ByteArray} {q : Nat} (hq : q < L.length) : nmAt L q ∈ L := by
  unfold nmAt
  rw [List.getD_eq_getElem?_getD, List.getElem?_eq_getElem hq]
  exact List.getElem_mem hq

theorem not_mem_of {L : List ByteArray} {x : ByteArray} (h : ∀ q, q < L.length → ¬ nmAt L q = x) : ¬ x ∈ L := by
  intro hm
  obtain ⟨q, hq, e⟩ := List.getElem_of_mem hm
  refine h q hq ?_
  unfold nmAt
  rw [List.getD_eq_getElem?_getD, List.getElem?_eq_getElem hq]
  exact e

theorem toList_ne {x y : ByteArray} (h : ¬ x = y) : (x.toList == y.toList) = false := by
  rw [Bool.eq_false_iff]
  intro e
  apply h
  have e1 : x.toList = y.toList := by simpa using e
  rw [ByteArray.toList_eq, ByteArray.toList_eq] at e1
  cases x with
  | mk a => cases y with
    | mk b => congr; exact Array.toList_inj.mp e1

theorem names_grow {L : List ByteArray} {x : ByteArray} {w wr w1 : World} {cap : Nat} {o : Obj} (h : NamesR L w cap wr)
    (hr : w1.ownsRow w.heap.size 9 1 (.slice (some ⟨w.heap.size, 0, none⟩) (L.length + 1) cap) (L.length + 1) (L.map Value.string ++ [.string x])) (hg : (wr.alloc o).grownBy w1 (some w.heap.size)) : NamesR (L ++ [x]) w cap w1 := by
  refine ⟨?_, (h.low.alloc h.low.size o).grown hg (by have := h.low.size; simp; omega) (fun k hk => by cases hk; exact Nat.le_refl _)⟩
  rw [List.map_append, List.map_singleton, List.length_append]
  exact hr

theorem names_start {N : Nat → ByteArray} {w w0 w1 : World} {cap : Nat} {o : Obj} (hg0 : w.grownBy w0 none) (hr : w1.ownsRow w.heap.size 9 1 (.slice (some ⟨w.heap.size, 0, none⟩) (0 + 1) cap) (0 + 1) ([] ++ [.string ⟨#[80, 65, 84, 72]⟩]))
    (hg : (w0.alloc o).grownBy w1 (some w.heap.size)) : NamesR (ns N 0) w cap w1 := by
  refine ⟨hr, ?_⟩
  have b0 := (Below.refl w.heap.size w).grown hg0 (Nat.le_refl _) (fun k hk => by cases hk)
  exact (b0.alloc b0.size o).grown hg (by have := b0.size; simp; omega) (fun k hk => by cases hk; exact Nat.le_refl _)

theorem NamesR.drewN {L : List ByteArray} {w wr : World} {cap : Nat} (h : NamesR L w cap wr) (m : Nat) : NamesR L w cap (wr.drewN m) :=
  ⟨h.row, ⟨h.low.os, h.low.tape, h.low.output, h.low.size, h.low.block⟩⟩

theorem grown_drewN {w w' : World} {m : Nat} {r : Option Nat} (h : (w.drewN m).grownBy w' r) : w.grownBy w' r := ⟨h.os, h.tape, h.output, h.size, h.block⟩

/-- What holds at the head of the loop that fills 'out': q entries are laid. -/
structure OutR (N V : Nat → ByteArray) (len : Nat) (L : List ByteArray) (w : World) (G q : Nat) (wx : World) : Prop where
  names : NamesR L w (len + 1) wx
  ne : G ≠ w.heap.size
  ge : w.heap.size ≤ G
  own : ∃ xs, wx.ownsRow w.heap.size 9 1 (.slice (some ⟨G, 0, none⟩) L.length L.length) L.length xs ∧ ∀ p, p < q → xs[p]? = some (.string (ent (nmAt L p) (lv N V (nmAt L p) len)))

theorem out_start {N V : Nat → ByteArray} {L : List ByteArray} {w wr w2 : World} {k : Nat} {xs : List Value} (h : NamesR L w (k + 1) wr)
    (hr : w2.ownsRow w.heap.size 9 1 (.slice (some ⟨wr.heap.size, 0, none⟩) L.length L.length) L.length xs) (hg : wr.grownBy w2 none) : OutR N V k L w wr.heap.size 0 w2 := by
  have hlt := (h.row.lt w.heap.size rfl).2
  refine ⟨⟨h.row.kept hg (Or.inr (by simp [Value.ownBlock])), h.low.grown hg h.low.size (fun k hk => by cases hk)⟩, by omega, by omega, xs, hr, fun p hp => absurd hp (Nat.not_lt_zero _)⟩

theorem OutR.out_cell {N V : Nat → ByteArray} {len : Nat} {L : List ByteArray} {w wx : World} {G q p : Nat} (h : OutR N V len L w G q wx) (hp : p < L.length) : ∃ v, wx.cell? ⟨G, p, none⟩ = some v := by
  obtain ⟨xs, hx, _⟩ := h.own
  have hl : p < xs.length := by rw [hx.1]; omega
  exact ⟨_, by rw [hx.cellAt p (by omega)]; exact List.getElem?_eq_getElem hl⟩

theorem OutR.out_frozen {N V : Nat → ByteArray} {len : Nat} {L : List ByteArray} {w wx : World} {G q : Nat} (h : OutR N V len L w G q wx) (p : Nat) : wx.frozen? ⟨G, p, none⟩ = false := by
  obtain ⟨xs, hx, _⟩ := h.own
  exact hx.frozenAt p

theorem OutR.step {N V : Nat → ByteArray} {len : Nat} {L : List ByteArray} {w wx : World} {G q m : Nat} {s : ByteArray} (h : OutR N V len L w G q wx) (hq : q < L.length) (hs : lv N V (nmAt L q) len = s) :
    OutR N V len L w G (q + 1) ((wx.setCell ⟨G, q, none⟩ (.string (ent (nmAt L q) s))).drewN m) := by
  obtain ⟨xs, hx, hf⟩ := h.own
  have hl : q < xs.length := by rw [hx.1]; omega
  have st := hx.stored q (.string (ent (nmAt L q) s))
  have n1 : NamesR L w (len + 1) (wx.setCell ⟨G, q, none⟩ (.string (ent (nmAt L q) s))) :=
    ⟨h.names.row.kept st.2 (Or.inr (by simp [Value.ownBlock]; exact fun e => h.ne e.symm)), h.names.low.setCell h.ge _⟩
  refine ⟨n1.drewN m, h.ne, h.ge, _, st.1, fun p hp => ?_⟩
  by_cases e : p = q
  · subst e
    rw [List.getElem?_set_self hl, hs]
  · rw [List.getElem?_set_ne (fun e2 => e e2.symm)]
    exact hf p (by omega)

theorem OutR.done {N V : Nat → ByteArray} {len : Nat} {L : List ByteArray} {w wx : World} {G : Nat} (h : OutR N V len L w G L.length wx) (hL : ns N len = L) :
    ListP (envL N V len) w (.returned (.slice (some ⟨G, 0, none⟩) L.length L.length)) wx := by
  obtain ⟨xs, hx, hf⟩ := h.own
  have hxs : xs = (envL N V len).map Value.string := by
    apply List.ext_getElem?
    intro p
    by_cases hp : p < L.length
    · rw [hf p hp]
      unfold envL
      rw [hL, List.getElem?_map, List.getElem?_map, List.getElem?_eq_getElem hp]
      simp [nmAt, hp]
    · have h1 : xs.length ≤ p := by rw [hx.1]; omega
      have h2 : ((envL N V len).map Value.string).length ≤ p := by rw [List.length_map, envL_len, hL]; omega
      rw [List.getElem?_eq_none h1, List.getElem?_eq_none h2]
  refine ⟨_, rfl, h.names.low, ?_⟩
  rw [envL_len, hL, ← hxs]
  exact hx

theorem ns_small {N V : Nat → ByteArray} {len : Nat} (hsz : ∀ j, j < len → (N j).size ≤ 1048576 ∧ (V j).size ≤ 1048576) : ∀ k, k ≤ len → ∀ x ∈ ns N k, x.size ≤ 1048576
  | 0, _, x, hx => by
    have : x = pathN := by simpa [ns] using hx
    subst this
    decide
  | k + 1, hk, x, hx => by
    by_cases h : N k ∈ ns N k
    · rw [ns_old h] at hx
      exact ns_small hsz k (by omega) x hx
    · rw [ns_new h, List.mem_append] at hx
      rcases hx with hx | hx
      · exact ns_small hsz k (by omega) x hx
      · have : x = N k := by simpa using hx
        subst this
        exact (hsz k (by omega)).1

set_option maxHeartbeats 4000000 in
theorem model_any (a : Option Addr) (len cap : Nat) (N V : Nat → ByteArray) (w : World) (hl : len ≤ 4096)
    (hsz : ∀ j, j < len → (N j).size ≤ 1048576 ∧ (V j).size ≤ 1048576)
    (hc : 0 < len → ∃ b off, a = some ⟨b, off, none⟩ ∧ b < w.heap.size ∧ Pairs w b off len N V) :
    Calls Try.prog 17 #[.slice a len cap] w fun e w' => ListP (envL N V len) w e w' := by
  obtain ⟨i0, hi, hz0, hz1, hz2⟩ := info_parts Try.info9
  go_enter Try.func17, Try.ntmps17
  go_wp2_with (first
    | (at_make; refine wpList_make_own _ rfl _ _ 29 rfl w.heap.size 9 i0 _ 1 Try.underlying29 hi hz0 hz1 _ _ _ (len + 1) rfl rfl (by simp) (by rw [hz2]; omega) (by unfold maxLen; omega) (Nat.le_refl _) ?_; intro w0 hr0 hg0)
    | (at_builtin; refine wpList_append_fits _ rfl (.tmp 15) (.tmp 16) 29 rfl w.heap.size 9 i0 1 Try.underlying29 hi hz1 w.heap.size 0 (len + 1) [] rfl (hr0.alloc _) ⟨w0.heap.size, 0, none⟩ 1 1 [.string ⟨#[80, 65, 84, 72]⟩] rfl rfl (cell_one_new _ _ _) (one_string _) (by omega) ?_; intro w1 hr1 hg1))
  have hN0 : NamesR (ns N 0) w (len + 1) w1 := names_start hg0 hr1 hg1
  clear hr0 hg0 hr1 hg1
  go_loopw [3, 4] (fun v i wr => ∃ k : Nat, k ≤ len ∧ i = .int .i64 k ∧ v = .slice (some ⟨w.heap.size, 0, none⟩) (ns N k).length (len + 1) ∧ NamesR (ns N k) w (len + 1) wr) (fun _ i _ => len - (intOf i).toNat)
  case atStart => exact ⟨0, Nat.zero_le _, rfl, rfl, hN0⟩
  case round =>
    obtain ⟨k, hk, rfl, rfl, hR⟩ := hrel
    clear hN0
    by_cases hlt : k < len
    · obtain ⟨b, off, rfl, hbw, hp⟩ := hc (by omega)
      have h1 := (hR.low.cell (p := ⟨b, off + k * 2, none⟩) hbw).trans (hp k hlt).1
      have hnl := (ns_len N k)
      have HNS : Hid (N k ∈ ns N k → ns N (k + 1) = ns N k) := fun h => ns_old h
      have HNT : Hid (¬ N k ∈ ns N k → ns N (k + 1) = ns N k ++ [N k]) := fun h => ns_new h
      clear hp hc hsz
      go_wp2
      go_loopw [5, 6] (fun s i wx => ∃ (j m : Nat), j ≤ (ns N k).length ∧ s = .bool false ∧ i = .int .i64 j ∧ Hid (∀ q, q < j → ¬ nmAt (ns N k) q = N k) ∧ wx = wr.drewN m) (fun _ i _ => (ns N k).length - (intOf i).toNat)
      case atStart => exact ⟨0, 0, Nat.zero_le _, rfl, rfl, fun q hq => absurd hq (Nat.not_lt_zero _), rfl⟩
      case round =>
        obtain ⟨j, m, hj, rfl, rfl, HQ, rfl⟩ := hrel
        by_cases hjn : j < (ns N k).length
        · have e1 := hR.cell hjn
          by_cases heq : nmAt (ns N k) j = N k
          · have HM : Hid (N k ∈ ns N k) := by show N k ∈ ns N k; rw [← heq]; exact nm_mem hjn
            rw [heq] at e1
            clear heq HQ
            go_wp2
            go_quiet (fail)
            go_wp2
            go_roundw
            case rel => exact ⟨k + 1, by omega, by go_num, by rw [HNS.out HM.out], by rw [HNS.out HM.out]; exact hR.drewN _⟩
            case measure => simp [intOf]; omega
          · have hne := toList_ne heq
            have HQ' : Hid (∀ q, q < j + 1 → ¬ nmAt (ns N k) q = N k) := fun q hq => by
              by_cases e : q = j
              · subst e; exact heq
              · exact HQ.out q (by omega)
            clear HQ heq
            generalize nmAt (ns N k) j = x1 at e1 hne
            go_wp2
            go_quiet (fail)
            go_wp2
            go_roundw
            case rel => exact ⟨j + 1, _, by omega, rfl, by go_num, HQ', rfl⟩
            case measure => simp [intOf]; omega
        · have hjn' : j = (ns N k).length := by omega
          subst hjn'
          have HM : Hid (¬ N k ∈ ns N k) := not_mem_of HQ.out
          clear HQ
          go_wp2_with (at_builtin; refine wpList_append_fits _ rfl (.tmp 42) (.tmp 48) 29 rfl w.heap.size 9 i0 1 Try.underlying29 hi hz1 w.heap.size (ns N k).length (len + 1) ((ns N k).map Value.string) rfl (hR.row.alloc _) ⟨wr.heap.size, 0, none⟩ 1 1 [.string (N k)] rfl rfl (cell_one_new _ _ _) (one_string _) (by omega) ?_; intro w2 hr2 hg2)
          go_roundw
          case rel => exact ⟨k + 1, by omega, by go_num, by rw [HNT.out HM.out]; simp, by rw [HNT.out HM.out]; exact names_grow hR hr2 (grown_drewN hg2)⟩
          case measure => simp [intOf]; omega
    · have : k = len := by omega
      subst this
      have hnl := (ns_len N k)
      generalize hL : ns N k = L at *
      have HL : Hid (ns N k = L) := hL
      have hnm : ∀ q, q < L.length → (nmAt L q).size ≤ 1048576 := fun q hq => ns_small hsz k (Nat.le_refl _) _ (by rw [hL]; exact nm_mem hq)
      have hdv : defV.size ≤ 1048576 := by decide
      clear hL
      go_wp2_with (at_make; refine wpList_make_full _ rfl _ _ 29 rfl w.heap.size 9 i0 _ 1 Try.underlying29 hi hz0 hz1 _ _ _ _ L.length rfl rfl rfl rfl (by rw [hz2]; omega) (by unfold maxLen; omega) hR.low.size ?_; intro w2 hr2 hg2)
      have hO := out_start (N := N) (V := V) (k := k) hR hr2 hg2
      clear hr2 hg2
      generalize wr.heap.size = G at *
      clear hR
      go_loopw [8] (fun i wx => ∃ (q : Nat), q ≤ L.length ∧ i = .int .i64 q ∧ OutR N V k L w G q wx) (fun i _ => L.length - (intOf i).toNat)
      case atStart => exact ⟨0, Nat.zero_le _, rfl, hO⟩
      case round =>
        obtain ⟨q, hq, rfl, hO⟩ := hrel
        by_cases hqn : q < L.length
        · have e1 := hO.names.cell hqn
          obtain ⟨v1, o1⟩ := hO.out_cell hqn
          have f1 := hO.out_frozen q
          have hns := hnm q hqn
          go_wp2
          go_loopw [9, 10] (fun s i wy => ∃ (j m : Nat) (x : Int), j ≤ k ∧ Hid (x = (j : Int) - 1) ∧ s = .string defV ∧ i = .int .i64 x ∧ Hid (lv N V (nmAt L q) k = lv N V (nmAt L q) j) ∧ wy = wr.drewN m) (fun _ i _ => (intOf i + 1).toNat)
          case atStart => exact ⟨k, 0, _, Nat.le_refl _, rfl, rfl, rfl, rfl, rfl⟩
          case round =>
            obtain ⟨j, m, x, hj, hx, rfl, rfl, HV, rfl⟩ := hrel
            cases j with
            | zero =>
              have hx2 : x = -1 := by have := hx.out; omega
              subst hx2
              clear hx hc hsz
              go_wp2
              go_roundw
              case rel => exact ⟨q + 1, by omega, by go_num, hO.step hqn HV.out⟩
              case measure => simp [intOf]; omega
            | succ j =>
              have hx2 : x = (j : Int) := by have := hx.out; omega
              subst hx2
              obtain ⟨b, off, rfl, hbw, hp⟩ := hc (by omega)
              have h1 := (hO.names.low.cell (p := ⟨b, off + j * 2, none⟩) hbw).trans (hp j (by omega)).1
              have h2 := (hO.names.low.cell (p := ⟨b, off + j * 2 + 1, none⟩) hbw).trans (hp j (by omega)).2
              have hs2 := (hsz j (by omega)).2
              clear hx hc hsz hp
              by_cases heq : N j = nmAt L q
              · have HW : Hid (lv N V (nmAt L q) k = V j) := HV.out.trans (lv_same heq)
                rw [heq] at h1
                clear HV heq
                go_wp2
                go_quiet (fail)
                go_wp2
                go_roundw
                case rel => exact ⟨q + 1, by omega, by go_num, hO.step hqn HW.out⟩
                case measure => simp [intOf]; omega
              · have HW : Hid (lv N V (nmAt L q) k = lv N V (nmAt L q) j) := HV.out.trans (lv_other heq)
                have hne := toList_ne heq
                clear HV heq
                go_wp2
                go_quiet (fail)
                go_wp2
                go_roundw
                case rel => exact ⟨j, _, _, by omega, rfl, rfl, rfl, HW, rfl⟩
                case measure => simp [intOf]
        · have hqn' : q = L.length := by omega
          subst hqn'
          go_wp2
          go_ret
          exact hO.done HL.out
end Go.Proofs.Qxb6604301a.walks
