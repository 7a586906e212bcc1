/- THE SCRIPT LAWS: report, place. -/
import Derived.Test.Qxb6601949aScState
import Derived.Deep.RegionHeld3
import Derived.OwnWalk
namespace Go.Proofs.Qxb6601949a.Sc
open Go.RowKit Go.Maps
set_option linter.unusedVariables false
set_option linter.unusedSimpArgs false

theorem info91 : (Try.prog.info? 91).map (fun i => (i.zero, i.size, i.bytes)) = some (some (.agg #[.string ⟨#[]⟩, .slice none 0 0, .slice none 0 0]), 3, 64) := by kernel_rfl
theorem info88 : (Try.prog.info? 88).map (fun i => (i.zero, i.size, i.bytes)) = some (some (.agg #[.string ⟨#[]⟩, .int .u64 0, .slice none 0 0, .slice none 0 0, .pointer none]), 5, 80) := by kernel_rfl
theorem info3 : (Try.prog.info? 3).map (fun i => (i.zero, i.size, i.bytes)) = some (some (.int .i64 0), 1, 8) := by kernel_rfl

theorem Own.ne {w : World} {T : Nat → Nat} {t : Nat} {e : TypeId} {size : Nat} {v : Value} {n : Nat} {xs : List Value} (h : Own w T t e size v n xs) {b : Nat} (hb : T b ≠ t) : some b ≠ v.ownBlock := fun e => hb (h.tag b e.symm)

set_option maxHeartbeats 400000 in
theorem report_any (w : World) (T : Nat → Nat) (B : Nat) (g : G) (h : St w T B g) (kind : ByteArray) (is rs : Sl) (ids reps : List ByteArray) (hI : Imm w T is 1 (strsC ids)) (hJ : Imm w T rs 1 (strsC reps)) (hn : g.vios.length + 1 ≤ 2199023255552) :
    Calls Try.prog 57 #[.pointer (some ⟨g.R, 0, none⟩), .string kind, .slice is.a is.n is.cap, .slice rs.a rs.n rs.cap] w fun e w' => e = .returned (.tuple #[]) ∧ ∃ T' v, Keep0 T T' w w' ∧ St w' T' B { g with vios := g.vios ++ [⟨kind, is, ids, rs, reps⟩], vioV := v } := by
  obtain ⟨i0, hi, hz0, hz1, hz2⟩ := info_parts info91
  have c9 : w.cell? ⟨g.R, 9, none⟩ = some g.vioV := h.run.cell 9
  have hO := h.vios
  have hne := hO.ne (b := g.R) (by rw [h.tR]; omega)
  have hlt0 := h.run.lt
  have hf0 := h.run.frozen 9
  go_enter Try.func57, Try.ntmps57
  go_wp2_with (at_builtin; go_loud (refine wpList_append_lies _ rfl _ _ 50 rfl 0 91 i0 _ 3 64 Try.underlying50 hi hz0 hz1 hz2 rfl (by omega) g.vioV g.vios.length _ rfl (hO.row.alloc _) ⟨w.heap.size, 0, none⟩ 1 1 (vioCells ⟨kind, is, ids, rs, reps⟩) rfl rfl (World.news_of_block (cs := #[.string kind, .slice is.a is.n is.cap, .slice rs.a rs.n rs.cap]) (t := 91) (fr := (0, 0)) (heap_alloc_new w _)) (by simp [vioCells, Value.oneCell']) (by omega) (by unfold maxLen; omega) (by omega) (by omega) (w.heap.size + 1) (by simp) ?_; intro gg cap w1 hown1 hgrow hat hlt; have c9' := (hgrow.cell_far ⟨g.R, 9, none⟩ (by simp; omega) hne).trans ((World.cell?_of_block (heap_alloc_old _ _ hlt0)).trans c9); have f9' := (hgrow.frozen_far ⟨g.R, 9, none⟩ (by simp; omega) hne).trans ((World.frozen?_of_block (heap_alloc_old _ _ hlt0)).trans hf0)))
  obtain ⟨T', k, ho⟩ := hO.appended ((Below.refl _ w).alloc (Nat.le_refl _) _) hown1 hgrow gg rfl (hat.imp id (fun e => by omega))
  obtain ⟨k0, S⟩ := h.put_vios k ⟨kind, is, ids, rs, reps⟩ _ ho hI hJ
  go_end0
  exact ⟨rfl, T', _, k0, S⟩

/-- What 'place' answers. -/
def plc (l : List Nat) (m : Nat) : Option Nat := match l[m]? with
  | some (p + 1) => some p
  | _ => none
theorem plc_some {l : List Nat} {m p : Nat} (h : l[m]? = some (p + 1)) : plc l m = some p := by simp [plc, h]
theorem plc_zero {l : List Nat} {m : Nat} (h : l[m]? = some 0) : plc l m = none := by simp [plc, h]
theorem plc_none {l : List Nat} {m : Nat} (h : l.length ≤ m) : plc l m = none := by simp [plc, List.getElem?_eq_none h]

theorem Own.slice {w : World} {T : Nat → Nat} {t : Nat} {e : TypeId} {size : Nat} {v : Value} {n : Nat} {xs : List Value} (h : Own w T t e size v n xs) : ∃ (a : Option Addr) (b cap : Nat), v = .slice a n cap ∧ (0 < n → a = some ⟨b, 0, none⟩ ∧ v.ownBlock = some b ∧ ∀ j u, xs[j]? = some u → w.cell? ⟨b, j, none⟩ = some u) := by
  obtain ⟨s, h1, h2, h3, h4⟩ := h.cells
  refine ⟨s.a, s.b, s.cap, by rw [h1, h2], fun hn => ?_⟩
  obtain ⟨h5, h6⟩ := h4 hn
  refine ⟨by rw [h3.at' (by omega), h5], h6, fun j u hj => ?_⟩
  have := h3.cell j u hj
  rwa [h5, Nat.zero_add] at this
theorem ints_get {l : List Nat} {i x : Nat} (h : l[i]? = some x) : (intsC l)[i]? = some (.int .i64 (x : Int)) := by simp [intsC, h]
theorem intsC_length (l : List Nat) : (intsC l).length = l.length := by simp [intsC]

set_option maxHeartbeats 400000 in
theorem place_any (w : World) (lb : Nat) (o : Value) (d : Lp) (T : Nat → Nat) (t : Nat) (pv : Value) (l : List Nat) (hb : Blk w lb 106 (logCells d o pv)) (hO : Own w T t 3 1 pv l.length (intsC l)) (hn : l.length ≤ 1099511627776) (hx : ∀ x, x ∈ l → x ≤ 1099511627776) (m : Nat) (hm : m ≤ 1099511627776) :
    Calls Try.prog 55 #[.pointer (some ⟨lb, 0, none⟩), .int .i64 m] w fun e w' => e = .returned (.tuple #[.int .i64 (((plc l m).getD 0 : Nat) : Int), .bool (plc l m).isSome]) ∧ w' = w := by
  obtain ⟨a, b, cap, rfl, hs⟩ := hO.slice
  have c4 : w.cell? ⟨lb, 4, none⟩ = some (.slice a l.length cap) := hb.cell 4
  by_cases hml : m < l.length
  · obtain ⟨rfl, _, hc⟩ := hs (by omega)
    have hg : l[m]? = some l[m] := List.getElem?_eq_getElem hml
    have hc' := hc m _ (ints_get hg)
    have hxm := hx _ (List.getElem_mem hml)
    generalize l[m] = x at hg hc' hxm
    have hmd : decide ((m : Int) < (l.length : Int)) = true := decide_eq_true (by omega)
    clear hb hO hc hs hx
    cases x with
    | zero =>
      have hp := plc_zero hg
      have hz : ¬ (0 : Int) < ((0 : Nat) : Int) := by omega
      have hzd : decide ((0 : Int) < ((0 : Nat) : Int)) = false := decide_eq_false hz
      go_enter Try.func55, Try.ntmps55
      go_wp2
      go_ret2
      exact ⟨by first | rfl | (rw [hp]; rfl), rfl⟩
    | succ p =>
      have hp := plc_some hg
      have hz : (0 : Int) < ((p + 1 : Nat) : Int) := by omega
      have hzd : decide ((0 : Int) < ((p + 1 : Nat) : Int)) = true := decide_eq_true hz
      have hw : wrap64 (((p + 1 : Nat) : Int) - 1) = (p : Int) := by rw [show ((p + 1 : Nat) : Int) - 1 = (p : Int) by omega]; unfold wrap64; omega
      go_enter Try.func55, Try.ntmps55
      go_wp2
      go_ret2
      exact ⟨by first | rfl | (rw [hp]; rfl), rfl⟩
  · have hp := plc_none (l := l) (m := m) (by omega)
    have hmd : decide ((m : Int) < (l.length : Int)) = false := decide_eq_false (by omega)
    clear hb hO hs hx
    go_enter Try.func55, Try.ntmps55
    go_wp2
    go_ret2
    exact ⟨by first | rfl | (rw [hp]; rfl), rfl⟩

end Go.Proofs.Qxb6601949a.Sc
