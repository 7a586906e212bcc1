/- THE SCRIPT LAWS: numbering. -/
import Derived.Test.Qxb6601949aScOps
namespace Go.Proofs.Qxb6601949a.Sc
open Go.RowKit Go.Maps
set_option linter.unusedVariables false
set_option linter.unusedSimpArgs false

/-- The lines at which an id first comes, and each line's number, after k lines. -/
def numUp (ids : List ByteArray) : Nat → List Nat × List Nat
  | 0 => ([], [])
  | k + 1 =>
    if firstIdx ids k = k then ((numUp ids k).1 ++ [k], (numUp ids k).2 ++ [(numUp ids k).1.length])
    else ((numUp ids k).1, (numUp ids k).2 ++ [(numUp ids k).2.getD (firstIdx ids k) 0])
theorem numUp_len (ids : List ByteArray) : ∀ k, (numUp ids k).2.length = k ∧ (numUp ids k).1.length ≤ k
  | 0 => ⟨rfl, Nat.le_refl _⟩
  | k + 1 => by
    have := numUp_len ids k
    unfold numUp
    split <;> simp <;> omega
theorem numUp_first {ids : List ByteArray} {k : Nat} (h : firstIdx ids k = k) : numUp ids (k + 1) = ((numUp ids k).1 ++ [k], (numUp ids k).2 ++ [(numUp ids k).1.length]) := by rw [numUp, if_pos h]
theorem numUp_again {ids : List ByteArray} {k : Nat} (h : ¬ firstIdx ids k = k) : numUp ids (k + 1) = ((numUp ids k).1, (numUp ids k).2 ++ [(numUp ids k).2.getD (firstIdx ids k) 0]) := by rw [numUp, if_neg h]
theorem firstIdx_le (ids : List ByteArray) {i : Nat} (hi : i < ids.length) : firstIdx ids i ≤ i := by
  unfold firstIdx
  refine Nat.le_of_not_lt fun h => ?_
  have := List.not_of_lt_findIdx h
  simp [List.getElem?_eq_getElem hi] at this

/-- The row of numbers: those of the first k lines, then noughts. -/
def numRow (N : List Nat) : Nat → Value := fun j => .int .i64 ((N.getD j 0 : Nat) : Int)
theorem numRow_snoc (N : List Nat) (x : Nat) (j : Nat) : (if j = N.length then Value.int .i64 (x : Int) else numRow N j) = numRow (N ++ [x]) j := by
  unfold numRow
  by_cases e : j = N.length
  · subst e; simp
  · rw [if_neg e]
    by_cases h : j < N.length
    · simp [List.getElem?_append_left h]
    · rw [List.getD_eq_getElem?_getD, List.getD_eq_getElem?_getD, List.getElem?_eq_none (by omega), List.getElem?_eq_none (by simp; omega)]

theorem ownsRow_below' {B : Nat} {e : TypeId} {k : Nat} {v : Value} {n : Nat} {xs : List Value} {w w' : World} (h : w.ownsRow B e k v n xs) (hb : Below w.heap.size w w') : w'.ownsRow B e k v n xs := ownsRow_blocks h fun b hb' => hb.block b (h.lt b hb').2

theorem ownsRow_cells {w : World} {base : Nat} {e : TypeId} {size : Nat} {v : Value} {n : Nat} {xs : List Value} (h : w.ownsRow base e size v n xs) : ∃ s : Sl, v = .slice s.a s.n s.cap ∧ s.n = n ∧ CellsAt w s size xs := by
  obtain ⟨s, h1, h2, h3, _⟩ := Own.cells (T := fun _ => 0) (t := 0) ⟨⟨h.1, h.2.imp (fun x => x) (fun ⟨g, cap, cur, a1, _, a3⟩ => ⟨g, cap, cur, a1, Nat.zero_le _, a3⟩)⟩, fun _ _ => rfl⟩
  exact ⟨s, h1, h2, h3⟩

def NumPost (w : World) (ids : List ByteArray) (e : Ending) (w' : World) : Prop :=
  ∃ sF sN : Sl, e = .returned (.tuple #[.slice sF.a sF.n sF.cap, .slice sN.a sN.n sN.cap]) ∧ sF.n = (numUp ids ids.length).1.length ∧ sN.n = ids.length ∧ CellsAt w' sF 1 (intsC (numUp ids ids.length).1) ∧ CellsAt w' sN 1 (intsC (numUp ids ids.length).2) ∧ Below w.heap.size w w'

set_option maxRecDepth 100000 in
set_option maxHeartbeats 2000000 in
theorem numbering_any (w : World) (s : Sl) (ds : List Dp) (hn : s.n ≤ 4096) (h : DsAt w s ds) :
    Calls Try.prog 22 #[.slice s.a s.n s.cap] w fun e w' => NumPost w (idsOf ds) e w' := by
  have hil : (idsOf ds).length = s.n := by simp [idsOf, h.len]
  obtain ⟨i3, hi3, hy0, hy1, hy2⟩ := info_parts info3
  have hmk := run_make_row' (P := Try.prog) 25 3 (.int .i64 0) 8 Try.underlying25 info3 rfl .i64 .i64 s.n (by omega) (by omega)
  have H0 := World.rowIs_made w (.int .i64 0) s.n 3
  have B0 : Below w.heap.size w (w.alloc (.cells (madeCells #[.int .i64 0] s.n) 3)) := (Below.refl _ w).alloc (Nat.le_refl _) _
  go_enter Try.func22, Try.ntmps22
  go_wp2
  clear hmk
  go_loopw [4, 6] (fun v i wr => ∃ k : Nat, k ≤ s.n ∧ i = .int .i64 k ∧ wr.ownsRow (w.heap.size + 1) 3 1 v (numUp (idsOf ds) k).1.length (intsC (numUp (idsOf ds) k).1) ∧ wr.rowIs w.heap.size 3 s.n (numRow (numUp (idsOf ds) k).2) ∧ Below w.heap.size w wr ∧ w.heap.size + 1 ≤ wr.heap.size) (fun _ i _ => s.n - (intOf i).toNat)
  case atStart => exact ⟨0, Nat.zero_le _, rfl, World.ownsRow_nil _ _ _ _, H0.congr (fun i _ => by simp [numRow, numUp]), B0, by simp⟩
  case round =>
    obtain ⟨k, hk, rfl, hF, hN, hB, hsz⟩ := hrel
    clear H0 B0
    obtain ⟨hNl, hFl⟩ := numUp_len (idsOf ds) k
    by_cases hlt : k < s.n
    · have hfi := firstIdx_le (idsOf ds) (i := k) (by omega)
      have hD := h.of_below (w' := wr) hB
      by_cases e : firstIdx (idsOf ds) k = k
      · have hstep := numUp_first e
        have hFr : ∃ fa fc, u4 = .slice fa (numUp (idsOf ds) k).1.length fc := by
          obtain ⟨s', h1, h2, _⟩ := ownsRow_cells hF
          exact ⟨_, _, by rw [h1, h2]⟩
        obtain ⟨fa, fc, rfl⟩ := hFr
        have c1 := hN.cell hlt
        have f1 := hN.frozen k
        have hNs := (hN.set k (.int .i64 ((numUp (idsOf ds) k).1.length : Int))).congr (g := numRow ((numUp (idsOf ds) k).2 ++ [(numUp (idsOf ds) k).1.length])) (fun j _ => by have := numRow_snoc (numUp (idsOf ds) k).2 (numUp (idsOf ds) k).1.length j; rw [hNl] at this; exact this)
        have hFne : some w.heap.size ≠ Value.ownBlock (.slice fa (numUp (idsOf ds) k).1.length fc) := fun hh => by have := (hF.lt _ hh.symm).1; omega
        have hwl : w.heap.size < wr.heap.size := by omega
        have hcall : Calls Try.prog 44 #[.slice s.a s.n s.cap, .int .i64 k] wr fun e w' => e = .returned (.int .i64 (k : Int)) ∧ ∃ m, w' = wr.drewN m := by have := firstIndex_any wr s ds (by omega) hD k hlt; rwa [e] at this
        have hlen : (numUp (idsOf ds) k).1.length + 1 ≤ 8192 := by omega
        have hst : Hid (numUp (idsOf ds) (k + 1) = ((numUp (idsOf ds) k).1 ++ [k], (numUp (idsOf ds) k).2 ++ [(numUp (idsOf ds) k).1.length])) := hstep
        have hlt' : Hid (k < s.n) := hlt
        clear e hfi hD hstep hN h
        generalize (numUp (idsOf ds) k).2 = N at hNs hNl hst c1
        generalize (numUp (idsOf ds) k).1 = F at *
        go_wp2_with (first | (go_at_call 44; refine hcall.mono ?_; rintro e w1 ⟨rfl, mm, rfl⟩) | (at_builtin; refine wpList_append_lies _ rfl _ _ 25 rfl (w.heap.size + 1) 3 i3 _ 1 8 Try.underlying25 hi3 hy0 hy1 hy2 rfl (by omega) (.slice fa F.length fc) F.length _ rfl ((ownsRow_setCell_below (w := wr.drewN mm) hF (Nat.lt_succ_self _) _).alloc _) ⟨wr.heap.size, 0, none⟩ 1 1 [.int .i64 (k : Int)] rfl rfl (by have := cell_one_new ((wr.drewN mm).setCell ⟨w.heap.size, k, none⟩ (.int .i64 (F.length : Int))) (.int .i64 (k : Int)) 3; simpa using this) (by simp [Value.oneCell']) (by omega) (by unfold maxLen; omega) (by omega) (by simp; omega) (wr.heap.size + 1) (by simp) ?_; intro gg cap w1 hown1 hgrow hat hltg))
        have hX : Below w.heap.size w (((wr.drewN mm).setCell ⟨w.heap.size, k, none⟩ (.int .i64 (F.length : Int))).alloc (.cells #[.int .i64 (k : Int)] 3)) := ((below_drewN hB mm).setCell (Nat.le_refl _) _).alloc (by simp; omega) _
        have hX1 := hX.grown hgrow hX.size (fun j hj => by have := (hF.lt j hj).1; omega)
        have hN1 : w1.rowIs w.heap.size 3 s.n (numRow (N ++ [F.length])) := hNs.of_block ((hgrow.block w.heap.size (by simp; omega) hFne).trans (heap_alloc_old _ _ (by simp; omega)))
        have hsz1 := hgrow.size
        simp at hsz1
        go_roundw
        case rel => exact ⟨k + 1, hlt'.out, by go_num, by rw [hst.out]; simpa [intsC] using hown1, by rw [hst.out]; exact hN1, hX1, by omega⟩
        case measure => have := hlt'.out; simp [intOf]; omega
      · have hst : Hid (numUp (idsOf ds) (k + 1) = ((numUp (idsOf ds) k).1, (numUp (idsOf ds) k).2 ++ [(numUp (idsOf ds) k).2.getD (firstIdx (idsOf ds) k) 0])) := numUp_again e
        have c1 := hN.cell hlt
        have c2 : wr.cell? ⟨w.heap.size, firstIdx (idsOf ds) k, none⟩ = some (.int .i64 (((numUp (idsOf ds) k).2.getD (firstIdx (idsOf ds) k) 0 : Nat) : Int)) := hN.cell (i := firstIdx (idsOf ds) k) (by omega)
        have f1 := hN.frozen k
        have hNs := (hN.set k (.int .i64 (((numUp (idsOf ds) k).2.getD (firstIdx (idsOf ds) k) 0 : Nat) : Int))).congr (g := numRow ((numUp (idsOf ds) k).2 ++ [(numUp (idsOf ds) k).2.getD (firstIdx (idsOf ds) k) 0])) (fun j _ => by have := numRow_snoc (numUp (idsOf ds) k).2 ((numUp (idsOf ds) k).2.getD (firstIdx (idsOf ds) k) 0) j; rw [hNl] at this; exact this)
        have hcall := firstIndex_any wr s ds (by omega) hD k hlt
        have hbq : (((firstIdx (idsOf ds) k : Nat) : Int) == (k : Int)) = false := beq_eq_false_iff_ne.2 (by omega)
        have hlt' : Hid (k < s.n) := hlt
        clear hN hD h e
        generalize firstIdx (idsOf ds) k = fi at *
        generalize (numUp (idsOf ds) k).2.getD fi 0 = x at *
        generalize (numUp (idsOf ds) k).2 = N at *
        have hfn : (fi : Int) < (s.n : Int) := by omega
        go_wp2_with (go_at_call 44; refine hcall.mono ?_; rintro e w1 ⟨rfl, mm, rfl⟩)
        have hX : Below w.heap.size w ((wr.drewN mm).setCell ⟨w.heap.size, k, none⟩ (.int .i64 (x : Int))) := (below_drewN hB mm).setCell (Nat.le_refl _) _
        have hF1 := ownsRow_setCell_below (w := wr.drewN mm) (a := ⟨w.heap.size, k, none⟩) hF (Nat.lt_succ_self _) (.int .i64 (x : Int))
        go_roundw
        case rel => exact ⟨k + 1, hlt'.out, by go_num, by rw [hst.out]; exact hF1, by rw [hst.out]; exact hNs, hX, by simp; omega⟩
        case measure => have := hlt'.out; simp [intOf]; omega
    · obtain rfl : k = s.n := by omega
      obtain ⟨sF, hv, hFn, hFc⟩ := ownsRow_cells hF
      subst hv
      have hNc : CellsAt wr ⟨some ⟨w.heap.size, 0, none⟩, w.heap.size, 0, s.n, s.n⟩ 1 (intsC (numUp (idsOf ds) s.n).2) := by
        refine ⟨by rw [intsC_length, hNl]; simp, fun _ => rfl, (fun hh => by cases hh), fun j v hj => ?_⟩
        have hjl : j < s.n := by have := get_lt hj; rw [intsC_length, hNl] at this; exact this
        show wr.cell? ⟨w.heap.size, 0 + j, none⟩ = some v
        rw [Nat.zero_add, hN.cell hjl, ← hj]
        simp [numRow, intsC, List.getElem?_eq_getElem (show j < (numUp (idsOf ds) s.n).2.length by omega)]
      have hfin : NumPost w (idsOf ds) (.returned (.tuple #[.slice sF.a sF.n sF.cap, .slice (some ⟨w.heap.size, 0, none⟩) s.n s.n])) wr := by
        unfold NumPost
        rw [hil]
        exact ⟨sF, ⟨some ⟨w.heap.size, 0, none⟩, w.heap.size, 0, s.n, s.n⟩, rfl, hFn, rfl, hFc, hNc, hB⟩
      clear h hN hF hFc hNc
      go_wp2
      go_ret2
      exact hfin

end Go.Proofs.Qxb6601949a.Sc
