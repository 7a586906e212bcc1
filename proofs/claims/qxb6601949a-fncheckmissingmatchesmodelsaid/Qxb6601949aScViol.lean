/- THE SCRIPT LAWS: violMatches, violListMatches. -/
import Derived.Test.Qxb6601949aScPure
import Derived.Test.Qxb6601949aScCopyD
namespace Go.Proofs.Qxb6601949a.Sc
open Go.RowKit Go.Maps
set_option linter.unusedVariables false
set_option linter.unusedSimpArgs false

/-- A violation as the law's model writes it. -/
structure Zv where
  kind : ByteArray
  id : ByteArray
  r1 : ByteArray
  r2 : ByteArray
  two : Bool
def zvC (z : Zv) : List Value := [.string z.kind, .string z.id, .string z.r1, .string z.r2, .bool z.two]
def vpOf (z : Zv) : Vp := ⟨z.kind, [z.id], if z.two then [z.r1, z.r2] else [z.r1]⟩

theorem one_sl {w : World} {s : Sl} {x : ByteArray} (h : CellsAt w s 1 (strsC [x])) : ∃ b off cap, s = ⟨some ⟨b, off, none⟩, b, off, 1, cap⟩ ∧ w.cell? ⟨b, off, none⟩ = some (.string x) := by
  obtain ⟨a, b, off, n, cap⟩ := s
  have hl : n = 1 := by have := h.len; simp [strsC] at this; omega
  subst hl
  have ha : a = some ⟨b, off, none⟩ := h.at' (by show 0 < 1; omega)
  subst ha
  exact ⟨b, off, cap, rfl, h.cell 0 _ rfl⟩
theorem two_sl {w : World} {s : Sl} {x y : ByteArray} (h : CellsAt w s 1 (strsC [x, y])) : ∃ b off cap, s = ⟨some ⟨b, off, none⟩, b, off, 2, cap⟩ ∧ w.cell? ⟨b, off, none⟩ = some (.string x) ∧ w.cell? ⟨b, off + 1, none⟩ = some (.string y) := by
  obtain ⟨a, b, off, n, cap⟩ := s
  have hl : n = 2 := by have := h.len; simp [strsC] at this; omega
  subst hl
  have ha : a = some ⟨b, off, none⟩ := h.at' (by show 0 < 2; omega)
  subst ha
  exact ⟨b, off, cap, rfl, h.cell 0 _ rfl, h.cell 1 _ rfl⟩

set_option maxRecDepth 100000 in
set_option maxHeartbeats 2000000 in
theorem violMatches_one (w : World) (kind id r1 r2 : ByteArray) (is rs : Sl) (hI : CellsAt w is 1 (strsC [id])) (hR : CellsAt w rs 1 (strsC [r1])) :
    Calls Try.prog 45 #[.agg #[.string kind, .slice is.a is.n is.cap, .slice rs.a rs.n rs.cap], .agg #[.string kind, .string id, .string r1, .string r2, .bool false]] w fun e w' => e = .returned (.bool true) ∧ Below w.heap.size w w' := by
  obtain ⟨b, off, cap, rfl, c0⟩ := one_sl hI
  obtain ⟨b', off', cap', rfl, d0⟩ := one_sl hR
  have hb1 : b < w.heap.size := World.block_lt_of_cell? _ _ c0
  have hb2 : b' < w.heap.size := World.block_lt_of_cell? _ _ d0
  clear hI hR
  have k1 : (kind.toList == kind.toList) = true := beq_self_eq_true _
  have k2 : (id.toList == id.toList) = true := beq_self_eq_true _
  have k3 : (r1.toList == r1.toList) = true := beq_self_eq_true _
  have hB : Below w.heap.size w ((w.alloc (.cells #[.string kind, .slice (some ⟨b, off, none⟩) 1 cap, .slice (some ⟨b', off', none⟩) 1 cap'] 91)).alloc (.cells #[.string kind, .string id, .string r1, .string r2, .bool false] 64)) := ((Below.refl _ w).alloc (Nat.le_refl _) _).alloc (by simp) _
  go_enter Try.func45, Try.ntmps45
  go_wp2
  go_quiet (fail)
  go_wp2
  go_quiet (fail)
  go_wp2
  go_ret
  exact ⟨rfl, below_drewN (below_drewN hB _) _⟩

set_option maxRecDepth 100000 in
set_option maxHeartbeats 2000000 in
theorem violMatches_two (w : World) (kind id r1 r2 : ByteArray) (is rs : Sl) (hI : CellsAt w is 1 (strsC [id])) (hR : CellsAt w rs 1 (strsC [r1, r2])) :
    Calls Try.prog 45 #[.agg #[.string kind, .slice is.a is.n is.cap, .slice rs.a rs.n rs.cap], .agg #[.string kind, .string id, .string r1, .string r2, .bool true]] w fun e w' => e = .returned (.bool true) ∧ Below w.heap.size w w' := by
  obtain ⟨b, off, cap, rfl, c0⟩ := one_sl hI
  obtain ⟨b', off', cap', rfl, d0, d1⟩ := two_sl hR
  have hb1 : b < w.heap.size := World.block_lt_of_cell? _ _ c0
  have hb2 : b' < w.heap.size := World.block_lt_of_cell? _ _ d0
  clear hI hR
  have k1 : (kind.toList == kind.toList) = true := beq_self_eq_true _
  have k2 : (id.toList == id.toList) = true := beq_self_eq_true _
  have k3 : (r1.toList == r1.toList) = true := beq_self_eq_true _
  have k4 : (r2.toList == r2.toList) = true := beq_self_eq_true _
  have hB : Below w.heap.size w ((w.alloc (.cells #[.string kind, .slice (some ⟨b, off, none⟩) 1 cap, .slice (some ⟨b', off', none⟩) 2 cap'] 91)).alloc (.cells #[.string kind, .string id, .string r1, .string r2, .bool true] 64)) := ((Below.refl _ w).alloc (Nat.le_refl _) _).alloc (by simp) _
  go_enter Try.func45, Try.ntmps45
  go_wp2
  go_quiet (fail)
  go_wp2
  go_quiet (fail)
  go_wp2
  go_ret
  exact ⟨rfl, below_drewN (below_drewN hB _) _⟩

theorem violMatches_any (w : World) (v : Vio) (z : Zv) (h : absV v = vpOf z) (hI : CellsAt w v.is 1 (strsC v.ids)) (hR : CellsAt w v.rs 1 (strsC v.reps)) :
    Calls Try.prog 45 #[.agg #[.string v.kind, .slice v.is.a v.is.n v.is.cap, .slice v.rs.a v.rs.n v.rs.cap], .agg #[.string z.kind, .string z.id, .string z.r1, .string z.r2, .bool z.two]] w fun e w' => e = .returned (.bool true) ∧ Below w.heap.size w w' := by
  obtain ⟨kind, is, ids, rs, reps⟩ := v
  obtain ⟨zk, zi, r1, r2, two⟩ := z
  simp only [absV, vpOf, Vp.mk.injEq] at h
  obtain ⟨rfl, rfl, h3⟩ := h
  cases two with
  | false =>
    simp at h3
    subst h3
    exact violMatches_one w kind zi r1 r2 is rs hI hR
  | true =>
    simp at h3
    subst h3
    exact violMatches_two w kind zi r1 r2 is rs hI hR

end Go.Proofs.Qxb6601949a.Sc
