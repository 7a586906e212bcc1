/- THE WALK of findCycle's callees: the closure, slices.IndexFunc. -/
import Derived.Test.Qxb6601949aFcIsCyc
import Derived.Deep.LoopGhost
import Derived.Deep.QuietTactic
import Derived.BigQuiet
namespace Go.Proofs.Qxb6601949a.Fc
open Go.RowKit

set_option maxHeartbeats 400000 in
theorem closure_any (w : World) (u e x : Nat) (bx : Nat) (hx : w.cell? ⟨bx, 0, none⟩ = some (.int .i64 (x : Int))) :
    Calls Try.prog 53 #[.agg #[.int .i64 (u : Int), .int .i64 (e : Int)], .pointer (some ⟨bx, 0, none⟩)] w fun e' w' => e' = .returned (.bool ((u : Int) == (x : Int))) ∧ Below w.heap.size w w' := by
  have hbl := World.block_lt_of_cell? _ _ hx
  go_enter Try.func53, Try.ntmps53
  go_wp2
  go_ret
  exact ⟨rfl, (Below.refl _ _).alloc (Nat.le_refl _) _⟩

/-- A path's cells: two a step. -/
def flat : List (Nat × Nat) → List Value
  | [] => []
  | x :: r => .int .i64 (x.1 : Int) :: .int .i64 (x.2 : Int) :: flat r
theorem flat_length (p : List (Nat × Nat)) : (flat p).length = p.length * 2 := by
  induction p with
  | nil => rfl
  | cons x r ih => simp only [flat, List.length_cons, ih]; omega
theorem flat_append (p q : List (Nat × Nat)) : flat (p ++ q) = flat p ++ flat q := by
  induction p with
  | nil => rfl
  | cons x r ih => simp only [List.cons_append, flat, ih]
theorem flat_get {p : List (Nat × Nat)} : ∀ {i : Nat} {x : Nat × Nat}, p[i]? = some x → (flat p)[i * 2]? = some (.int .i64 (x.1 : Int)) ∧ (flat p)[i * 2 + 1]? = some (.int .i64 (x.2 : Int)) := by
  induction p with
  | nil => intro i x h; simp at h
  | cons y r ih =>
    intro i x h
    match i, h with
    | 0, h => simp at h; subst h; exact ⟨rfl, rfl⟩
    | i + 1, h =>
      have h1 := ih (i := i) (x := x) (by simpa using h)
      rw [show (i + 1) * 2 = i * 2 + 1 + 1 by omega]
      exact h1

def PathAt (w : World) (g : Nat) (p : List (Nat × Nat)) : Prop := ∀ (i : Nat) (x : Nat × Nat), p[i]? = some x → w.cell? ⟨g, i * 2, none⟩ = some (.int .i64 (x.1 : Int)) ∧ w.cell? ⟨g, i * 2 + 1, none⟩ = some (.int .i64 (x.2 : Int))

def IdxPost (p : List (Nat × Nat)) (x : Nat) (e : Ending) : Prop := ∃ i : Nat, e = .returned (.int .i64 (i : Int)) ∧ (p.map Prod.fst)[i]? = some x

set_option maxHeartbeats 400000 in
theorem indexFunc_any (w : World) (g cap x bx K : Nat) (p : List (Nat × Nat)) (HK : Hid (p.length = K)) (hK : K ≤ 65536) (hp : PathAt w g p) (hx : w.cell? ⟨bx, 0, none⟩ = some (.int .i64 (x : Int))) (hin : x ∈ p.map Prod.fst) :
    Calls Try.prog 52 #[.slice (some ⟨g, 0, none⟩) K cap, .func (.func 53) #[] #[.pointer (some ⟨bx, 0, none⟩)]] w fun e' w' => IdxPost p x e' ∧ Below w.heap.size w w' := by
  have hbl := World.block_lt_of_cell? _ _ hx
  go_enter Try.func52, Try.ntmps52
  go_wp2
  go_loopw [8] (fun i wr => Below w.heap.size w wr ∧ ∃ k : Nat, k ≤ K ∧ i = .int .i64 k ∧ x ∉ (p.map Prod.fst).take k) (fun i _ => K - (intOf i).toNat)
  case atStart => exact ⟨Below.refl _ _, 0, Nat.zero_le _, rfl, by simp⟩
  case round =>
    obtain ⟨hbel, k, hk, rfl, hno⟩ := hrel
    have hlt : k < K := by
      rcases Nat.lt_or_ge k K with hh | hh
      · exact hh
      · rw [List.take_of_length_le (by simp; have := HK.out; omega)] at hno
        exact absurd hin hno
    have hpl : k < p.length := by rw [HK.out]; exact hlt
    obtain ⟨y1, y2, hy⟩ : ∃ y1 y2 : Nat, p[k]? = some (y1, y2) := ⟨p[k].1, p[k].2, List.getElem?_eq_getElem hpl⟩
    obtain ⟨c0, c1⟩ := hp k (y1, y2) hy
    simp only at c0 c1
    have hgb := World.block_lt_of_cell? _ _ c0
    have c0' : wr.cell? ⟨g, k * 2, none⟩ = some (.int .i64 (y1 : Int)) := (hbel.cell (p := ⟨g, k * 2, none⟩) hgb).trans c0
    have c1' : wr.cell? ⟨g, k * 2 + 1, none⟩ = some (.int .i64 (y2 : Int)) := (hbel.cell (p := ⟨g, k * 2 + 1, none⟩) hgb).trans c1
    have hx' : wr.cell? ⟨bx, 0, none⟩ = some (.int .i64 (x : Int)) := (hbel.cell (p := ⟨bx, 0, none⟩) hbl).trans hx
    have HY : Hid (p[k]? = some (y1, y2)) := hy
    clear c0 c1 hx hp hy
    have hw := hbel.size
    by_cases he : y1 = x
    · have hb : ((y1 : Int) == (x : Int)) = true := by simp [he]
      have HE : Hid (y1 = x) := he
      clear he
      go_wp2_with (go_at_call 53; refine (closure_any _ y1 y2 x bx hx').mono ?_; rintro e w' ⟨rfl, hb2⟩)
      go_ret
      exact ⟨⟨k, rfl, by rw [List.getElem?_map, HY.out]; simp [HE.out]⟩, hbel.trans (hb2.mono hw)⟩
    · have hb : ((y1 : Int) == (x : Int)) = false := beq_eq_false_iff_ne.2 (by omega)
      have HN : Hid (x ∉ (p.map Prod.fst).take (k + 1)) := by
        show x ∉ (p.map Prod.fst).take (k + 1)
        rw [List.take_add_one, List.getElem?_map, HY.out]
        simp only [Option.map_some, Option.toList_some, List.mem_append, List.mem_singleton]
        rintro (h1 | h1)
        · exact hno h1
        · exact he h1.symm
      clear he
      go_wp2_with (go_at_call 53; refine (closure_any _ y1 y2 x bx hx').mono ?_; rintro e w' ⟨rfl, hb2⟩)
      go_roundw
      case rel => exact ⟨hbel.trans (hb2.mono hw), k + 1, by omega, by go_num, HN.out⟩
      case measure => simp [intOf]; omega

end Go.Proofs.Qxb6601949a.Fc
