/- THE SCRIPT LAWS: ZZNewLog, ZZNewRun, ZZDeliver. -/
import Derived.Test.Qxb6601949aScDeliver
import Derived.Test.Qxb6601949aScEntry
namespace Go.Proofs.Qxb6601949a.Sc
open Go.RowKit Go.Maps
set_option linter.unusedVariables false
set_option linter.unusedSimpArgs false

theorem info106 : (Try.prog.info? 106).map (fun i => (i.zero, i.size, i.bytes)) = some (some (.agg #[.string ⟨#[]⟩, .string ⟨#[]⟩, .string ⟨#[]⟩, .slice none 0 0, .slice none 0 0]), 5, 96) := by kernel_rfl

set_option maxHeartbeats 1000000 in
theorem newLog_any (w : World) (p r g : ByteArray) :
    Calls Try.prog 40 #[.string p, .string r, .string g] w fun e w' => e = .returned (.pointer (some ⟨w.heap.size, 0, none⟩)) ∧ w' = w.alloc (.cells (logCells ⟨p, r, g⟩ (.slice none 0 0) (.slice none 0 0)) 106) := by
  go_enter Try.func40, Try.ntmps40
  go_wp2
  go_ret
  exact ⟨rfl, rfl⟩

def newRunW (w : World) (cmp : Bool) (crs lss : Sl) : World :=
  (((w.alloc (.map #[] 0)).alloc (.map #[] 0)).alloc (.cells #[.bool cmp, .slice crs.a crs.n crs.cap, .slice lss.a lss.n lss.cap, .slice none 0 0, .map (some w.heap.size), .map (some (w.heap.size + 1)), .int .i64 0, .int .i64 0, .slice none 0 0, .slice none 0 0] 85))

set_option maxHeartbeats 1000000 in
theorem newRun_any (w : World) (cmp : Bool) (crs lss : Sl) :
    Calls Try.prog 41 #[.bool cmp, .slice crs.a crs.n crs.cap, .slice lss.a lss.n lss.cap] w fun e w' => e = .returned (.pointer (some ⟨w.heap.size + 2, 0, none⟩)) ∧ w' = newRunW w cmp crs lss := by
  have hmm := @run_makeMap Try.prog
  go_enter Try.func41, Try.ntmps41
  go_wp2
  go_ret
  exact ⟨rfl, rfl⟩

set_option maxHeartbeats 1000000 in
theorem zzDeliver_any (w : World) (T : Nat → Nat) (B : Nat) (g : G) (h : St w T B g) (hG : Good g) (i : Nat) (hi : i < 4096) (hBn : Bnd i (ps g)) (q : Nat) (dq : Lp) (hq : g.desc[q]? = some dq)
    (id : ByteArray) (ts : Int) (tos : Sl) (to : List ByteArray) (kes : Sl) (keys : List (ByteArray × Bool)) (hI : Imm w T tos 1 (strsC to)) (hJ : Imm w T kes 2 (keysC keys)) (hid : id.size ≤ 1048576) (hton : tos.n ≤ 1048576) (hken : kes.n ≤ 1048576) :
    Calls Try.prog 42 #[.pointer (some ⟨g.R, 0, none⟩), .pointer (some ⟨g.L q, 0, none⟩), .agg #[.string id, .int .u64 ts, .slice tos.a tos.n tos.cap, .slice kes.a kes.n kes.cap]] w
      fun e w' => DelPost w T B g (stepP g.desc q ⟨id, ts, to, keys, q⟩ (ps g)) e w' := by
  have hb : Below w.heap.size w (w.alloc (.cells #[.string id, .int .u64 ts, .slice tos.a tos.n tos.cap, .slice kes.a kes.n kes.cap] 75)) := (Below.refl _ w).alloc (Nat.le_refl _) _
  obtain ⟨T1, K1, _, S1⟩ := h.below hb
  have K0 : Keep0 T T1 w (w.alloc (.cells #[.string id, .int .u64 ts, .slice tos.a tos.n tos.cap, .slice kes.a kes.n kes.cap] 75)) := ⟨K1.os, K1.tape, K1.output, K1.size, K1.tag, fun b hbb _ => hb.block b hbb⟩
  have hc := deliver_any _ T1 B g S1 hG i hi hBn q dq hq id ts tos to kes keys (hI.keep0 (by omega) K0) (hJ.keep0 (by omega) K0) hid hton hken
  clear h hG hBn hI hJ S1 K1 hb
  go_enter Try.func42, Try.ntmps42
  go_wp2_with (go_at_call 54; refine hc.mono ?_; rintro e w2 ⟨rfl, T2, g2, hK, hS, hM, hGd, hP⟩)
  go_end0
  exact ⟨rfl, T2, g2, K0.trans hK, hS, hM, hGd, hP⟩

end Go.Proofs.Qxb6601949a.Sc
