/- THE SCRIPT LAWS: what the run shows. -/
import Derived.Test.Qxb6601949aScViol2
namespace Go.Proofs.Qxb6601949a.Sc
open Go.RowKit Go.Maps
set_option linter.unusedVariables false
set_option linter.unusedSimpArgs false

set_option maxHeartbeats 1000000 in
theorem deliveries_any (w : World) (T : Nat → Nat) (B : Nat) (g : G) (S : St w T B g) (R : Nat) (hR : g.R = R) :
    Calls Try.prog 21 #[.pointer (some ⟨R, 0, none⟩)] w fun e w' => e = .returned (.int .i64 (g.dels : Int)) ∧ w' = w := by
  subst hR
  have c7 : w.cell? ⟨g.R, 7, none⟩ = some (.int .i64 (g.dels : Int)) := S.run.cell 7
  clear S
  go_enter Try.func21, Try.ntmps21
  go_wp2
  go_ret
  exact ⟨rfl, rfl⟩

set_option maxHeartbeats 1000000 in
theorem violations_any (w : World) (T : Nat → Nat) (B : Nat) (g : G) (S : St w T B g) (R : Nat) (hR : g.R = R) :
    Calls Try.prog 27 #[.pointer (some ⟨R, 0, none⟩)] w fun e w' => e = .returned g.vioV ∧ w' = w := by
  subst hR
  have c9 : w.cell? ⟨g.R, 9, none⟩ = some g.vioV := S.run.cell 9
  clear S
  go_enter Try.func27, Try.ntmps27
  go_wp2
  go_ret
  exact ⟨rfl, rfl⟩

set_option maxHeartbeats 1000000 in
theorem msgCount_any (w : World) (T : Nat → Nat) (B : Nat) (g : G) (S : St w T B g) (R : Nat) (hR : g.R = R) :
    Calls Try.prog 23 #[.pointer (some ⟨R, 0, none⟩)] w fun e w' => e = .returned (.int .i64 (g.msgs.length : Int)) ∧ w' = w := by
  subst hR
  obtain ⟨a, b, cap, hv, _⟩ := S.msgs.slice
  have c3 : w.cell? ⟨g.R, 3, none⟩ = some (.slice a g.msgs.length cap) := by rw [← hv]; exact S.run.cell 3
  clear S
  go_enter Try.func23, Try.ntmps23
  go_wp2
  go_ret
  exact ⟨rfl, rfl⟩

theorem msgs_cell {w : World} {T : Nat → Nat} {B : Nat} {g : G} (S : St w T B g) {m : Nat} {x : Msg} (hx : g.msgs[m]? = some x) :
    ∃ (b cap : Nat), w.cell? ⟨g.R, 3, none⟩ = some (.slice (some ⟨b, 0, none⟩) g.msgs.length cap) ∧ w.cell? ⟨b, m * 5, none⟩ = some (.string x.id) ∧ w.cell? ⟨b, m * 5 + 1, none⟩ = some (.int .u64 x.ts) ∧ w.cell? ⟨b, m * 5 + 2, none⟩ = some (.slice x.tos.a x.tos.n x.tos.cap) ∧ w.cell? ⟨b, m * 5 + 3, none⟩ = some (.slice x.kes.a x.kes.n x.kes.cap) ∧ w.cell? ⟨b, m * 5 + 4, none⟩ = some (.pointer (some ⟨g.L x.frm, 0, none⟩)) := by
  obtain ⟨a, b, cap, hv, hs⟩ := S.msgs.slice
  obtain ⟨rfl, _, hc⟩ := hs (by have := get_lt hx; omega)
  have gg := flat_get (msgCells g.L) 5 (fun _ => rfl) g.msgs m x hx
  exact ⟨b, cap, by rw [← hv]; exact S.run.cell 3, hc _ _ ((gg 0 (by omega)).trans rfl), hc _ _ ((gg 1 (by omega)).trans rfl), hc _ _ ((gg 2 (by omega)).trans rfl), hc _ _ ((gg 3 (by omega)).trans rfl), hc _ _ ((gg 4 (by omega)).trans rfl)⟩

set_option maxHeartbeats 1000000 in
theorem msgId_any (w : World) (T : Nat → Nat) (B : Nat) (g : G) (S : St w T B g) (R : Nat) (hR : g.R = R) (m : Nat) (x : Msg) (hx : g.msgs[m]? = some x) :
    Calls Try.prog 24 #[.pointer (some ⟨R, 0, none⟩), .int .i64 (m : Int)] w fun e w' => e = .returned (.string x.id) ∧ w' = w := by
  subst hR
  obtain ⟨b, cap, c3, c0, _⟩ := msgs_cell S hx
  have hm : (m : Int) < (g.msgs.length : Int) := by have := get_lt hx; omega
  clear S hx
  go_enter Try.func24, Try.ntmps24
  go_wp2
  go_ret
  exact ⟨rfl, rfl⟩

set_option maxHeartbeats 1000000 in
theorem order_any (w : World) (lb : Nat) (o pv : Value) (d : Lp) (hb : Blk w lb 106 (logCells d o pv)) :
    Calls Try.prog 48 #[.pointer (some ⟨lb, 0, none⟩)] w fun e w' => e = .returned o ∧ w' = w := by
  have c3 : w.cell? ⟨lb, 3, none⟩ = some o := hb.cell 3
  clear hb
  go_enter Try.func48, Try.ntmps48
  go_wp2
  go_ret
  exact ⟨rfl, rfl⟩

set_option maxHeartbeats 1000000 in
theorem zzPlace_any (w : World) (lb : Nat) (o : Value) (d : Lp) (T : Nat → Nat) (t : Nat) (pv : Value) (l : List Nat) (hb : Blk w lb 106 (logCells d o pv)) (hO : Own w T t 3 1 pv l.length (intsC l)) (hn : l.length ≤ 1099511627776) (hx : ∀ x, x ∈ l → x ≤ 1099511627776) (m : Nat) (hm : m ≤ 1099511627776) :
    Calls Try.prog 49 #[.pointer (some ⟨lb, 0, none⟩), .int .i64 m] w fun e w' => e = .returned (.tuple #[.int .i64 (((plc l m).getD 0 : Nat) : Int), .bool (plc l m).isSome]) ∧ w' = w := by
  have hc := place_any w lb o d T t pv l hb hO hn hx m hm
  clear hb hO hn hx
  go_enter Try.func49, Try.ntmps49
  go_wp2_with (go_at_call 55; refine hc.mono ?_; rintro e w1 ⟨rfl, rfl⟩)
  go_ret2
  exact ⟨rfl, rfl⟩

end Go.Proofs.Qxb6601949a.Sc
